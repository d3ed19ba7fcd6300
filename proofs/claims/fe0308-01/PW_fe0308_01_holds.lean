import PyProof.Rows.All
import Wide.All
import OpenK.AllK
import Wide.FinOn
import Lean
import PySem.Challenge.RW_fe0308_01
open PySem PySem.W PyProof.Rows PySem.Calls
set_option Elab.async false
/-! The law of prefix_suffix_prep. The plain law (IsPrep: one answer, and both functions give it), then one contract a def, walked once each, then the law itself. -/
namespace Mine
set_option maxRecDepth 100000
set_option maxHeartbeats 8000000
open_top hd for PySem.Challenge.rw_fe0308_01
end Mine

section PartD2
namespace Mine
/-- the sign at place j -/
def sg (x : Str) (j : Nat) : Nat := (x.cps[j]?).getD 0
/-- the last k signs are alike -/
def SufEq (a b : Str) (k : Nat) : Prop := ∀ j, j < k → sg a (a.length - 1 - j) = sg b (b.length - 1 - j)
/-- the first k signs are alike -/
def PreEq (a b : Str) (k : Nat) : Prop := ∀ j, j < k → sg a j = sg b j
def SufAt (a b : Str) (l : Int) : Prop := SufEq a b (a.length - l.toNat)
def PreAt (a b : Str) (p : Int) : Prop := PreEq a b p.toNat
/-- what both functions tell -/
def IsPrep (a b : Str) (l1 l2 st : Int) : Prop := ∃ k p : Nat, k ≤ a.length ∧ SufEq a b k ∧ (k = a.length ∨ ¬ SufEq a b (k + 1)) ∧ p + k ≤ a.length ∧ PreEq a b p ∧ (p + k = a.length ∨ ¬ PreEq a b (p + 1)) ∧ l1 = (a.length : Int) - k - p ∧ l2 = (b.length : Int) - k - p ∧ st = p
end Mine
end PartD2

section PartP1
namespace Mine
theorem sg_some {x : Str} {j : Nat} (h : j < x.length) : x.cps[j]? = some (sg x j) := by
  have h' : j < x.cps.size := h
  unfold sg
  rw [Array.getElem?_eq_getElem h']
  rfl
theorem item_sg {x : Str} {i : Int} (h0 : 0 ≤ i) (h : i < (x.length : Int)) : Txt.item x i = ⟨#[sg x i.toNat]⟩ :=
  item_meets h0 (sg_some (by omega))
theorem item_beq {x y : Str} {i j : Int} (h0 : 0 ≤ i) (h : i < (x.length : Int)) (h0' : 0 ≤ j) (h' : j < (y.length : Int)) :
    (Txt.item x i == Txt.item y j) = decide (sg x i.toNat = sg y j.toNat) := by
  rw [item_sg h0 h, item_sg h0' h', mk_one_beq]
theorem suf_start (x y : Str) : 0 ≤ (x.length : Int) ∧ (x.length : Int) ≤ (x.length : Int) ∧ (y.length : Int) = (x.length : Int) + ((y.length : Int) - (x.length : Int)) ∧ SufAt x y (x.length : Int) := by
  refine ⟨by omega, by omega, by omega, ?_⟩
  intro j hj
  rw [Int.toNat_natCast, Nat.sub_self] at hj
  omega
theorem pre_start (x y : Str) {l1 : Int} (h : 0 ≤ l1) : 0 ≤ (0 : Int) ∧ (0 : Int) ≤ l1 ∧ PreAt x y 0 := ⟨by omega, h, fun j hj => absurd hj (Nat.not_lt_zero j)⟩
theorem suf_turn {x y : Str} {l1 l2 : Int} (hxy : x.length ≤ y.length) (h0 : 0 ≤ l1) (h1 : l1 ≤ (x.length : Int)) (h2 : l2 = l1 + ((y.length : Int) - (x.length : Int))) (hs : SufAt x y l1) (hz : l1 ≠ 0)
    (he : (Txt.item x (l1 - 1) == Txt.item y (l2 - 1)) = true) :
    0 ≤ l1 - 1 ∧ l1 - 1 ≤ (x.length : Int) ∧ l2 - 1 = l1 - 1 + ((y.length : Int) - (x.length : Int)) ∧ SufAt x y (l1 - 1) := by
  refine ⟨by omega, by omega, by omega, ?_⟩
  rw [item_beq (by omega) (by omega) (by omega) (by omega)] at he
  have he := of_decide_eq_true he
  intro j hj
  by_cases hj' : j < x.length - l1.toNat
  · exact hs j hj'
  · have e1 : x.length - 1 - j = (l1 - 1).toNat := by omega
    have e2 : y.length - 1 - j = (l2 - 1).toNat := by omega
    rw [e1, e2]
    exact he
theorem pre_turn {x y : Str} {l1 st : Int} (hxy : x.length ≤ y.length) (hl : l1 ≤ (x.length : Int)) (h0 : 0 ≤ st) (h1 : st ≤ l1) (hs : PreAt x y st) (hz : st ≠ l1)
    (he : (Txt.item x st == Txt.item y st) = true) : 0 ≤ st + 1 ∧ st + 1 ≤ l1 ∧ PreAt x y (st + 1) := by
  refine ⟨by omega, by omega, ?_⟩
  rw [item_beq (by omega) (by omega) (by omega) (by omega)] at he
  have he := of_decide_eq_true he
  intro j hj
  by_cases hj' : j < st.toNat
  · exact hs j hj'
  · have e1 : j = st.toNat := by omega
    rw [e1]
    exact he
theorem prep_end {x y : Str} {l1 l2 st : Int} (hxy : x.length ≤ y.length) (h0 : 0 ≤ l1) (h1 : l1 ≤ (x.length : Int)) (h2 : l2 = l1 + ((y.length : Int) - (x.length : Int))) (hs : SufAt x y l1)
    (hz : l1 = 0 ∨ (l1 ≠ 0 ∧ (Txt.item x (l1 - 1) == Txt.item y (l2 - 1)) = false)) (g0 : 0 ≤ st) (g1 : st ≤ l1) (hp : PreAt x y st)
    (hw : st = l1 ∨ (st ≠ l1 ∧ (Txt.item x st == Txt.item y st) = false)) : IsPrep x y (l1 - st) (l2 - st) st := by
  refine ⟨x.length - l1.toNat, st.toNat, by omega, hs, ?_, by omega, hp, ?_, by omega, by omega, by omega⟩
  · rcases hz with hz | ⟨hz, he⟩
    · exact .inl (by omega)
    · refine .inr fun hq => ?_
      rw [item_beq (by omega) (by omega) (by omega) (by omega)] at he
      have he := of_decide_eq_false he
      have q := hq (x.length - l1.toNat) (by omega)
      have e1 : x.length - 1 - (x.length - l1.toNat) = (l1 - 1).toNat := by omega
      have e2 : y.length - 1 - (x.length - l1.toNat) = (l2 - 1).toNat := by omega
      rw [e1, e2] at q
      exact he q
  · rcases hw with hw | ⟨hw, he⟩
    · exact .inl (by omega)
    · refine .inr fun hq => ?_
      rw [item_beq (by omega) (by omega) (by omega) (by omega)] at he
      exact (of_decide_eq_false he) (hq st.toNat (by omega))
theorem prep_end0 {x y : Str} {l1 l2 st : Int} (hxy : x.length ≤ y.length) (h0 : 0 ≤ l1) (h1 : l1 ≤ (x.length : Int)) (h2 : l2 = l1 + ((y.length : Int) - (x.length : Int))) (hs : SufAt x y l1)
    (hz : l1 = 0 ∨ (l1 ≠ 0 ∧ (Txt.item x (l1 - 1) == Txt.item y (l2 - 1)) = false)) (g0 : 0 ≤ st) (g1 : st ≤ l1) (hp : PreAt x y st)
    (hw : st = l1 ∨ (st ≠ l1 ∧ (Txt.item x st == Txt.item y st) = false)) (he : st = 0) : IsPrep x y l1 l2 st := by
  have q := prep_end hxy h0 h1 h2 hs hz g0 g1 hp hw
  have e1 : l1 - st = l1 := by omega
  have e2 : l2 - st = l2 := by omega
  rw [e1, e2] at q
  exact q
theorem SufEq.le {x y : Str} {k k' : Nat} (h : SufEq x y k) (hk : k' ≤ k) : SufEq x y k' := fun j hj => h j (Nat.lt_of_lt_of_le hj hk)
theorem PreEq.le {x y : Str} {k k' : Nat} (h : PreEq x y k) (hk : k' ≤ k) : PreEq x y k' := fun j hj => h j (Nat.lt_of_lt_of_le hj hk)
theorem isPrep_unique {x y : Str} {l1 l2 st l1' l2' st' : Int} (h : IsPrep x y l1 l2 st) (h' : IsPrep x y l1' l2' st') : l1 = l1' ∧ l2 = l2' ∧ st = st' := by
  obtain ⟨k, p, hk, hs, hm, hp, hq, hn, e1, e2, e3⟩ := h
  obtain ⟨k', p', hk', hs', hm', hp', hq', hn', e1', e2', e3'⟩ := h'
  have ek : k = k' := by
    rcases Nat.lt_trichotomy k k' with c | c | c
    · rcases hm with hm | hm
      · omega
      · exact absurd (hs'.le c) hm
    · exact c
    · rcases hm' with hm' | hm'
      · omega
      · exact absurd (hs.le c) hm'
  subst ek
  have ep : p = p' := by
    rcases Nat.lt_trichotomy p p' with c | c | c
    · rcases hn with hn | hn
      · omega
      · exact absurd (hq'.le c) hn
    · exact c
    · rcases hn' with hn' | hn'
      · omega
      · exact absurd (hq.le c) hn'
  subst ep
  omega
theorem isPrep_same (x : Str) : IsPrep x x 0 0 0 := ⟨x.length, 0, Nat.le_refl _, fun _ _ => rfl, .inl rfl, by omega, fun j hj => absurd hj (Nat.not_lt_zero j), .inl (by omega), by omega, by omega, rfl⟩
theorem isPrep_empty {x y : Str} (h : x.length = 0) : IsPrep x y 0 (y.length : Int) 0 := ⟨0, 0, by omega, fun j hj => absurd hj (Nat.not_lt_zero j), .inl (by omega), by omega, fun j hj => absurd hj (Nat.not_lt_zero j), .inl (by omega), by omega, by omega, rfl⟩
end Mine
end PartP1

section PartP2
namespace Mine
theorem str_eq {x y : Str} (h : (x == y) = true) : x = y := eq_of_beq h
theorem sl_from {x : Str} {i : Int} (h0 : 0 ≤ i) (h2 : i ≤ (x.length : Int)) : Txt.slice x (some i) none = ⟨((x.cps.toList.drop i.toNat).take ((x.length : Int) - i).toNat).toArray⟩ :=
  str_eq (slice_closes_fromL h0 h2 rfl)
theorem sl_to {x : Str} {j : Int} (h0 : 0 ≤ j) (h2 : j ≤ (x.length : Int)) : Txt.slice x none (some j) = ⟨((x.cps.toList.drop (0 : Int).toNat).take (j - 0).toNat).toArray⟩ :=
  str_eq (slice_closes_toL h0 h2)
theorem len_from {x : Str} {i : Int} (h0 : 0 ≤ i) (h2 : i ≤ (x.length : Int)) : ((Txt.slice x (some i) none).length : Int) = (x.length : Int) - i := by
  rw [sl_from h0 h2]
  show ((((x.cps.toList.drop i.toNat).take ((x.length : Int) - i).toNat).toArray.size : Nat) : Int) = _
  have e : x.cps.toList.length = x.length := by rw [Array.length_toList]; rfl
  rw [List.size_toArray, List.length_take, List.length_drop, e]
  omega
theorem len_to {x : Str} {j : Int} (h0 : 0 ≤ j) (h2 : j ≤ (x.length : Int)) : ((Txt.slice x none (some j)).length : Int) = j := by
  rw [sl_to h0 h2]
  show ((((x.cps.toList.drop (0 : Int).toNat).take (j - 0).toNat).toArray.size : Nat) : Int) = _
  have e : x.cps.toList.length = x.length := by rw [Array.length_toList]; rfl
  rw [List.size_toArray, List.length_take, List.length_drop, e]
  omega
theorem sg_from {x : Str} {i : Int} (h0 : 0 ≤ i) (h2 : i ≤ (x.length : Int)) (m : Nat) : sg (Txt.slice x (some i) none) m = sg x (i.toNat + m) := by
  rw [sl_from h0 h2]
  unfold sg
  have e : x.cps.toList.length = x.length := by rw [Array.length_toList]; rfl
  rw [List.getElem?_toArray, List.getElem?_take, List.getElem?_drop, Array.getElem?_toList]
  split
  · rfl
  · have : x.cps[i.toNat + m]? = none := Array.getElem?_eq_none (by show x.length ≤ _; omega)
    rw [this]
theorem sg_to {x : Str} {j : Int} (h0 : 0 ≤ j) (h2 : j ≤ (x.length : Int)) {m : Nat} (hm : (m : Int) < j) : sg (Txt.slice x none (some j)) m = sg x m := by
  rw [sl_to h0 h2]
  unfold sg
  rw [List.getElem?_toArray, List.getElem?_take, List.getElem?_drop, Array.getElem?_toList, if_pos (by omega)]
  have e : (0 : Int).toNat + m = m := by simp
  rw [e]
theorem str_same {x y : Str} (hl : x.length = y.length) (h : ∀ m, m < x.length → sg x m = sg y m) : x = y := by
  have e : x.cps = y.cps := by
    refine Array.ext hl fun i h1 h2 => ?_
    have q := h i h1
    have a := sg_some (x := x) (j := i) h1
    have b := sg_some (x := y) (j := i) h2
    rw [Array.getElem?_eq_getElem h1] at a
    rw [Array.getElem?_eq_getElem h2] at b
    rw [Option.some.inj a, Option.some.inj b, q]
  cases x; cases y; cases e; rfl
theorem suf_iff {x y : Str} {k : Int} (hxy : x.length ≤ y.length) (h0 : 0 ≤ k) (h1 : k ≤ (x.length : Int)) :
    (Txt.slice x (some ((x.length : Int) - k)) none == Txt.slice y (some ((y.length : Int) - k)) none) = true ↔ SufEq x y k.toNat := by
  have la := len_from (x := x) (i := (x.length : Int) - k) (by omega) (by omega)
  have lb := len_from (x := y) (i := (y.length : Int) - k) (by omega) (by omega)
  constructor
  · intro h j hj
    have e := congrArg (fun z => sg z (k.toNat - 1 - j)) (str_eq h)
    rw [sg_from (by omega) (by omega), sg_from (by omega) (by omega)] at e
    have e1 : ((x.length : Int) - k).toNat + (k.toNat - 1 - j) = x.length - 1 - j := by omega
    have e2 : ((y.length : Int) - k).toNat + (k.toNat - 1 - j) = y.length - 1 - j := by omega
    rw [e1, e2] at e
    exact e
  · intro h
    have e : Txt.slice x (some ((x.length : Int) - k)) none = Txt.slice y (some ((y.length : Int) - k)) none := by
      refine str_same (by omega) fun m hm => ?_
      rw [sg_from (by omega) (by omega), sg_from (by omega) (by omega)]
      have q := h (k.toNat - 1 - m) (by omega)
      have e1 : ((x.length : Int) - k).toNat + m = x.length - 1 - (k.toNat - 1 - m) := by omega
      have e2 : ((y.length : Int) - k).toNat + m = y.length - 1 - (k.toNat - 1 - m) := by omega
      rw [e1, e2]
      exact q
    rw [e]
    exact beq_self_eq_true _
theorem pre_iff {x y : Str} {a b k : Int} (ha0 : 0 ≤ a) (ha : a ≤ (x.length : Int)) (hb0 : 0 ≤ b) (hb : b ≤ (y.length : Int)) (h0 : 0 ≤ k) (h1 : k ≤ a) (h2 : k ≤ b) :
    (Txt.slice (Txt.slice x none (some a)) none (some k) == Txt.slice (Txt.slice y none (some b)) none (some k)) = true ↔ PreEq x y k.toNat := by
  have la := len_to ha0 ha
  have lb := len_to hb0 hb
  have lc := len_to (x := Txt.slice x none (some a)) (j := k) h0 (by omega)
  have ld := len_to (x := Txt.slice y none (some b)) (j := k) h0 (by omega)
  have key : ∀ m : Nat, (m : Int) < k → sg (Txt.slice (Txt.slice x none (some a)) none (some k)) m = sg x m ∧ sg (Txt.slice (Txt.slice y none (some b)) none (some k)) m = sg y m := by
    intro m hm
    rw [sg_to h0 (by omega) hm, sg_to ha0 ha (by omega), sg_to h0 (by omega) hm, sg_to hb0 hb (by omega)]
    exact ⟨rfl, rfl⟩
  constructor
  · intro h j hj
    have e := congrArg (fun z => sg z j) (str_eq h)
    rw [(key j (by omega)).1, (key j (by omega)).2] at e
    exact e
  · intro h
    have e : Txt.slice (Txt.slice x none (some a)) none (some k) = Txt.slice (Txt.slice y none (some b)) none (some k) := by
      refine str_same (by omega) fun m hm => ?_
      rw [(key m (by omega)).1, (key m (by omega)).2]
      exact h m (by omega)
    rw [e]
    exact beq_self_eq_true _
/-- one turn of the comprehension -/
def keep (p : Int → Bool) (l : List Int) (k : Int) : List Int := if p k = true then l ++ [k] else l
theorem keep_fold (p : Int → Bool) : ∀ (ks l : List Int), ks.foldl (keep p) l = l ++ ks.filter p
  | [], l => by simp
  | k :: r, l => by
    rw [List.foldl_cons, keep_fold p r, List.filter_cons]
    unfold keep
    split <;> simp
theorem keep_mem {p : Int → Bool} {n : Nat} {k : Int} : k ∈ (rangeKs 0 n).foldl (keep p) [] ↔ (0 ≤ k ∧ k < (n : Int)) ∧ p k = true := by
  rw [keep_fold, List.nil_append, List.mem_filter]
  refine and_congr ⟨fun h => ?_, fun h => ?_⟩ Iff.rfl
  · have q := mem_rangeKs h
    omega
  · simp only [rangeKs, List.mem_map, List.mem_range]
    exact ⟨k.toNat, by omega, by omega⟩
theorem keep_grows (p : Int → Bool) : KPfGrows (keep p) := fun l k => by
  unfold keep
  split <;> simp
end Mine
end PartP2

section PartC1
namespace Mine
set_option maxRecDepth 100000 in
set_option maxHeartbeats 8000000 in
theorem num_ok : ∀ (w : World) (mean : ExcName → Option Value) (mg mb : Str → Option Value) (dp un : Nat) (gd : Option (List Code)) (cn : Str) (cs : Scope) (a : Addr) (ccd : Value) (cl : List (Str × Addr)) (outer : List Env) (A₀ : Around) (base h₀ : Heap) (L : Addr) (m : Str → Option Value) (news : List (Addr × Obj)) (s : Shared)
    (l : Addr) (vs : List Value) (ns : List Int) (i : Int) (t : Tok) (Q E : Value → Shared → Prop),
    Below A₀ base outer h₀ → Fr h₀ L s.heap m → (hd.heap_39 w.params).In h₀ → News h₀ L s.heap news → Top hd.view_39 (looseW hd.view_39 []) mean mg mb h₀ → cs.kind = .function →
    (l, W.listOf vs.toArray 0) ∈ news → IntsAre vs ns → ns.length ≤ 63 → 0 ≤ i → i ≤ 200 → dp + 1 < recursionLimit → un + 8 < cLine →
    (∀ x t' h' tk', 0 ≤ x → x < 1000 → Fr h₀ L h' m → News h₀ L h' news → Q (.int x t') { s with heap := h', toks := tk' }) →
    wpAny (model Challenge.rw_fe0308_01.row.prog w) (ktrTop dp un gd cn cs L a ccd cl outer) (call (.ref 28) [.ref l, .int i t]) Q E s := by
  k_fill
  intro w mean mg mb dp un gd cn cs a ccd cl outer A₀ base h₀ L m news s l vs ns i t Q E B F X N T hk hl hi hn h0 h1 hdp hun hret
  k_with "call builtin:len" => (k_here; (with_reducible show wpAny _ _ (call (Value.builtin "len") [Value.ref _]) _ _ _); k_dflt (refine' kst_len ?k1 ?k2 ?k3 ?k4 ?_; (case k1 => k_asm); (case k2 => assumption); (case k3 => exact IntsAre.length (by assumption)); (case k4 => omega); k_whole))
  k_with "subscriptTail" => (k_here; (with_reducible show wpAny _ _ (subscriptTail _ _ (Value.ref _) (Value.int _ _)) _ _ _); (with_unfolding_all refine' item_list_ints ?k1 ?k2 ?k3 ?k4 ?k5 ?_; (case k1 => exact News.isList (by k_asm) (by assumption)); (case k2 => assumption); (case k3 => omega); (case k4 => (try simp only [decide_eq_true_eq] at *); omega); (case k5 => omega); k_whole); intro _)
  refine wpAny_call ?_
  k_dflt cell_enter
  k_steps
  all_goals (refine hret _ _ _ _ ?_ ?_ (by k_asm) (by k_asm))
  all_goals first | exact fmod_lo _ (by decide) | exact fmod_hi _ (by decide)
set_option maxRecDepth 100000 in
set_option maxHeartbeats 8000000 in
theorem piece_ok : ∀ (w : World) (mean : ExcName → Option Value) (mg mb : Str → Option Value) (dp un : Nat) (gd : Option (List Code)) (cn : Str) (cs : Scope) (a : Addr) (ccd : Value) (cl : List (Str × Addr)) (outer : List Env) (A₀ : Around) (base h₀ : Heap) (L : Addr) (m : Str → Option Value) (news : List (Addr × Obj)) (s : Shared)
    (l : Addr) (vs : List Value) (ns : List Int) (i : Int) (t : Tok) (letters : Str) (u : Tok) (Q E : Value → Shared → Prop),
    Below A₀ base outer h₀ → Fr h₀ L s.heap m → (hd.heap_39 w.params).In h₀ → News h₀ L s.heap news → Top hd.view_39 (looseW hd.view_39 []) mean mg mb h₀ → cs.kind = .function →
    (l, W.listOf vs.toArray 0) ∈ news → IntsAre vs ns → ns.length ≤ 63 → 0 ≤ i → i ≤ 100 → 1 ≤ letters.length → letters.length ≤ 3 → dp + 3 < recursionLimit → un + 24 < cLine →
    (∀ x t' h' tk', x.length ≤ 4 → Fr h₀ L h' m → News h₀ L h' news → Q (.str x t') { s with heap := h', toks := tk' }) →
    wpAny (model Challenge.rw_fe0308_01.row.prog w) (ktrTop dp un gd cn cs L a ccd cl outer) (call (.ref 35) [.ref l, .int i t, .str letters u]) Q E s := by
  k_fill
  intro w mean mg mb dp un gd cn cs a ccd cl outer A₀ base h₀ L m news s l vs ns i t letters u Q E B F X N T hk hl hi hn h0 h1 hl1 hl3 hdp hun hret
  k_with "pyIter ref" => k_state (fun pre x => x.length = pre.length) "found"
  k_with "subscriptTail" => (
    k_here
    (with_reducible show wpAny _ _ (subscriptTail _ _ (Value.str _ _) (Value.int _ _)) _ _ _)
    refine KXi.item rfl ?_ ?_ ?_ ?_
    · have := fmod_lo x9 (n := (letters.length : Int)) (by omega); omega
    · exact fmod_hi x9 (by omega)
    · omega
    intro kxiE)
  k_with "call ref" => (
    k_dflt refine' num_ok w _ _ _ _ _ _ _ _ _ _ _ _ _ _ _ _ _ _ _ _ _ _ _ _ _ _ ?k1 ?k2 ?k3 ?k4 ?k5 ?kK ?kl ?ki ?kn ?k0 ?k9 ?kd ?ku ?_
    (case k1 => k_asm)
    (case k2 => k_asm)
    (case k3 => k_asm)
    (case k4 => k_asm)
    (case k5 => k_asm)
    (case kK => first | exact rfl | assumption)
    (case kl => first | assumption | exact List.mem_append_left _ (by assumption))
    (case ki => assumption)
    (case kn => assumption)
    (case k0 => omega)
    (case k9 => omega)
    (case kd => ktr_room)
    (case ku => ktr_units)
    intro x9 t9 h9 tk9 hx9 hy9 F9 N9
    have z9 : 0 ≤ Int.fmod x9 5 ∧ Int.fmod x9 5 < 5 := ⟨fmod_lo _ (by decide), fmod_hi _ (by decide)⟩
    (try dsimp only)
    (try k_fold))
  refine wpAny_call ?_
  k_dflt cell_enter
  k_steps
  all_goals (refine hret _ _ _ _ ?_ (by k_asm) (by k_asm); rw [rangeKs_length] at *; omega)
end Mine
end PartC1

section PartC2
namespace Mine
set_option maxRecDepth 100000 in
set_option maxHeartbeats 8000000 in
theorem prep_ok : ∀ (w : World) (mean : ExcName → Option Value) (mg mb : Str → Option Value) (dp un : Nat) (gd : Option (List Code)) (cn : Str) (cs : Scope) (a : Addr) (ccd : Value) (cl : List (Str × Addr)) (outer : List Env) (A₀ : Around) (base h₀ : Heap) (L : Addr) (m : Str → Option Value) (news : List (Addr × Obj)) (s : Shared)
    (x y : Str) (t u : Tok) (Q E : Value → Shared → Prop),
    Below A₀ base outer h₀ → Fr h₀ L s.heap m → (hd.heap_39 w.params).In h₀ → News h₀ L s.heap news → Top hd.view_39 (looseW hd.view_39 []) mean mg mb h₀ → cs.kind = .function →
    x.length ≤ y.length → y.length ≤ 1000 → dp + 1 < recursionLimit → un + 8 < cLine →
    (∀ D o l1 l2 st t1 t2 t3 h' tk', IsPrep x y l1 l2 st → o = ({ cls := .type "tuple", data := .seq #[.int l1 t1, .int l2 t2, .int st t3] 0 } : Obj) → Fr h₀ L h' m → News h₀ L h' ((D, o) :: news) → (∀ p ∈ news, p.1 < D) → Q (.ref D) { s with heap := h', toks := tk' }) →
    wpAny (model Challenge.rw_fe0308_01.row.prog w) (ktrTop dp un gd cn cs L a ccd cl outer) (call (.ref 21) [.str x t, .str y u]) Q E s := by
  k_fill
  intro w mean mg mb dp un gd cn cs a ccd cl outer A₀ base h₀ L m news s x y t u Q E B F X N T hk hxy hy hdp hun hret
  k_with_none
  k_with "state" => exact suf_start _ _
  k_with "state" => exact pre_start _ _ (by assumption)
  k_with "state" => exact suf_turn (by assumption) (by assumption) (by assumption) (by assumption) (by assumption) (by assumption) (by assumption)
  k_with "state" => exact pre_turn (by assumption) (by assumption) (by assumption) (by assumption) (by assumption) (by assumption) (by assumption)
  k_with "exec While BoolOp cons nil" => k_while_given ["string_1", "string_2"] (fun x y _ l1 l2 => 0 ≤ l1 ∧ l1 ≤ (x.length : Int) ∧ l2 = l1 + ((y.length : Int) - (x.length : Int)) ∧ SufAt x y l1) (fun _ _ _ l1 _ => l1.toNat) "len_1" "len_2"
  k_with "exec While BoolOp cons nil" => k_while_given ["string_1", "string_2", "len_1"] (fun x y l1 _ st => 0 ≤ st ∧ st ≤ l1 ∧ PreAt x y st) (fun _ _ l1 _ st => (l1 - st).toNat) "start"
  refine wpAny_call ?_
  k_dflt cell_enter
  k_steps
  all_goals first
    | (refine hret _ _ _ _ _ _ _ _ _ _ ?_ rfl (by k_asm) (by k_asm) (by assumption)
       first
         | exact prep_end (by assumption) (by assumption) (by assumption) (by assumption) (by assumption) (by first | exact .inl (by assumption) | exact .inr ⟨by assumption, by assumption⟩) (by assumption) (by assumption) (by assumption) (by first | exact .inl (by assumption) | exact .inr ⟨by assumption, by assumption⟩)
         | exact prep_end0 (by assumption) (by assumption) (by assumption) (by assumption) (by assumption) (by first | exact .inl (by assumption) | exact .inr ⟨by assumption, by assumption⟩) (by assumption) (by assumption) (by assumption) (by first | exact .inl (by assumption) | exact .inr ⟨by assumption, by assumption⟩) (by assumption))
end Mine
end PartC2

section PartC3
local macro_rules | `(tactic| walk_at "CompSrcT") => `(tactic| k_extra "CompSrcT")
local macro_rules | `(tactic| walk_at "CompEnd") => `(tactic| k_extra "CompEnd")
local macro_rules | `(tactic| walk_at "call builtin:max") => `(tactic| k_extra "call builtin:max")
local macro_rules | `(tactic| walk_at "KCiEl") => `(tactic| k_extra "KCiEl")
local macro_rules | `(tactic| walk_at "KCiNo") => `(tactic| k_extra "KCiNo")
local macro_rules | `(tactic| walk_at "KPfGrows") => `(tactic| k_extra "KPfGrows")
namespace Mine
def sufP (x y : Str) (k : Int) : Bool := Txt.slice x (some ((x.length : Int) - k)) none == Txt.slice y (some ((y.length : Int) - k)) none
theorem sufP_yes {x y : Str} {l : List Int} {k : Int} (h : (Txt.slice x (some ((x.length : Int) - k)) none == Txt.slice y (some ((y.length : Int) - k)) none) = true) : keep (sufP x y) l k = l ++ [k] := if_pos h
theorem sufP_no {x y : Str} {l : List Int} {k : Int} (h : (Txt.slice x (some ((x.length : Int) - k)) none == Txt.slice y (some ((y.length : Int) - k)) none) = false) : keep (sufP x y) l k = l := if_neg (by rw [show sufP x y k = false from h]; decide)
theorem like_mem {x y : Str} {k : Int} (hxy : x.length ≤ y.length) : k ∈ (rangeKs 0 ((x.length : Int) + 1 - 0).toNat).foldl (keep (sufP x y)) [] ↔ (0 ≤ k ∧ k ≤ (x.length : Int)) ∧ SufEq x y k.toNat := by
  have e : (((x.length : Int) + 1 - 0).toNat : Int) = (x.length : Int) + 1 := by omega
  rw [keep_mem, e]
  constructor
  · rintro ⟨⟨a, b⟩, c⟩
    exact ⟨⟨a, by omega⟩, (suf_iff hxy a (by omega)).mp c⟩
  · rintro ⟨⟨a, b⟩, c⟩
    exact ⟨⟨a, by omega⟩, (suf_iff hxy a b).mpr c⟩
theorem like_ne {x y : Str} (hxy : x.length ≤ y.length) : 0 < ((rangeKs 0 ((x.length : Int) + 1 - 0).toNat).foldl (keep (sufP x y)) []).length :=
  List.length_pos_of_mem (a := 0) ((like_mem hxy).mpr ⟨⟨by omega, by omega⟩, by intro j hj; simp at hj⟩)
theorem like_max {x y : Str} {M : Int} (hxy : x.length ≤ y.length) (hM : M ∈ (rangeKs 0 ((x.length : Int) + 1 - 0).toNat).foldl (keep (sufP x y)) []) (hX : ∀ a, a ∈ (rangeKs 0 ((x.length : Int) + 1 - 0).toNat).foldl (keep (sufP x y)) [] → a ≤ M) :
    ∃ k : Nat, M = k ∧ k ≤ x.length ∧ SufEq x y k ∧ (k = x.length ∨ ¬ SufEq x y (k + 1)) := by
  obtain ⟨⟨h0, h1⟩, hs⟩ := (like_mem hxy).mp hM
  refine ⟨M.toNat, by omega, by omega, hs, ?_⟩
  by_cases e : M.toNat = x.length
  · exact .inl e
  · refine .inr fun hq => ?_
    have e2 : (M + 1).toNat = M.toNat + 1 := by omega
    have := hX (M + 1) ((like_mem hxy).mpr ⟨⟨by omega, by omega⟩, by rw [e2]; exact hq⟩)
    omega
set_option maxRecDepth 100000 in
set_option maxHeartbeats 8000000 in
theorem like_ok : ∀ (w : World) (mean : ExcName → Option Value) (mg mb : Str → Option Value) (dp un : Nat) (gd : Option (List Code)) (cn : Str) (cs : Scope) (a : Addr) (ccd : Value) (cl : List (Str × Addr)) (outer : List Env) (A₀ : Around) (base h₀ : Heap) (L : Addr) (m : Str → Option Value) (news : List (Addr × Obj)) (s : Shared)
    (x y : Str) (t u : Tok) (Q E : Value → Shared → Prop),
    Below A₀ base outer h₀ → Fr h₀ L s.heap m → (hd.heap_39 w.params).In h₀ → News h₀ L s.heap news → Top hd.view_39 (looseW hd.view_39 []) mean mg mb h₀ → cs.kind = .function →
    x.length ≤ y.length → y.length ≤ 1000 → dp + 1 < recursionLimit → un + 8 < cLine →
    (∀ (k : Nat) t1 h' tk', k ≤ x.length → SufEq x y k → (k = x.length ∨ ¬ SufEq x y (k + 1)) → Fr h₀ L h' m → News h₀ L h' news → Q (.int k t1) { s with heap := h', toks := tk' }) →
    wpAny (model Challenge.rw_fe0308_01.row.prog w) (ktrTop dp un gd cn cs L a ccd cl outer) (call (.ref 40) [.str x t, .str y u]) Q E s := by
  k_fill
  intro w mean mg mb dp un gd cn cs a ccd cl outer A₀ base h₀ L m news s x y t u Q E B F X N T hk hxy hy hdp hun hret
  k_with_none
  k_with "CompSrcT" => (
    k_here
    k_dflt (refine LCt.CompSrcT.range (by rfl) (by k_asm) (by k_asm) (by assumption) (by exact small_one (by omega) (by omega) (by omega) (by omega)) (by exact rangeSize_nat _ _) (by rw [PySem.sizeLine_eq]; omega) ?_)
    intro g9
    refine' kci_range (keep (sufP x y)) (fun k' t' I' oI' C' oC' D' m' ys' l' h' tk' E' hlo' hhi' hI' hC' hx' F' N' off' ne' => ?_) ?_ ?_
    all_goals (try simp only [LCg.Off3, and_true] at off')
    all_goals (try ((show KPfMark → _); intro hMark'))
    kcf_last)
  k_with "KCiEl" => (refine kci_el (sufP_yes (by assumption)) rfl rfl)
  k_with "KCiNo" => (refine kci_no (sufP_no (by assumption)) rfl)
  k_with "CompEnd" => (refine LCg.CompEnd.intro (by assumption) (by assumption) _ (by exact fun _ hp => hp) (by simp only [LCg.Off3, and_true]; assumption) trivial ?_)
  k_with "call builtin:max" => (
    k_here
    (with_reducible show wpAny _ _ (call (Value.builtin _) [Value.ref _]) _ _ _)
    with_unfolding_all refine' kso_max ?k1 ?k2 ?k3 ?k4 ?k5 ?k6 ?_
    (case k1 => k_asm)
    (case k2 => k_asm)
    (case k3 => exact News.isList (by k_asm) (by k_mem))
    (case k4 => assumption)
    (case k5 => exact like_ne (by assumption))
    (case k6 => with_unfolding_all rfl)
    k_whole
    intro h9 M9 t9 tk9 F9 N9 hM9 hX9)
  k_with "KPfGrows" => exact keep_grows _
  refine wpAny_call ?_
  k_dflt (refine' code_defC ?k1 ?k2 ?k3 ?k4 ?k5 ?kA ?kF ?kK ?k6 ?k7 ?k8 ?k9 ?kB ?kD ?_ ?c2 ?c3 ?c4; (case kA => exact rfl); (case kF => exact rfl); (case kK => assumption); (case k1 => k_asm); (case k2 => k_asm); (case k3 => k_asm); (case k4 => k_asm); (case k5 => k_asm); (case k6 => k_is); (case k7 => k_is); (case k8 => ktr_room); (case k9 => exact BindsTo.of_eq rfl); (case kB => exact rfl); (case kD => decide +kernel); (case c2 => exact rfl); (case c3 => exact rfl); (case c4 => exact rfl); k_whole; intro g' L' h' tk' cells' FG' F' N' Y' B' X' T' l1; (try k_lt l1); k_cells Y'; (try simp only [List.cons_append, List.nil_append] at N'); (try dsimp only); (try k_lift B'); (try k_fold))
  k_steps
  obtain ⟨k9, e9, a9, b9, c9⟩ := like_max hxy hM9 hX9
  subst e9
  refine hret k9 _ _ _ a9 b9 c9 (by k_asm) (cb_drop (by assumption) (fun p hp => .tail _ (.tail _ (.tail _ hp))))
end Mine
end PartC3

section PartC4
local macro_rules | `(tactic| walk_at "CompSrcT") => `(tactic| k_extra "CompSrcT")
local macro_rules | `(tactic| walk_at "CompEnd") => `(tactic| k_extra "CompEnd")
local macro_rules | `(tactic| walk_at "call builtin:max") => `(tactic| k_extra "call builtin:max")
local macro_rules | `(tactic| walk_at "KCiEl") => `(tactic| k_extra "KCiEl")
local macro_rules | `(tactic| walk_at "KCiNo") => `(tactic| k_extra "KCiNo")
local macro_rules | `(tactic| walk_at "KPfGrows") => `(tactic| k_extra "KPfGrows")
local macro_rules | `(tactic| walk_at "call ref") => `(tactic| k_extra "call ref")
namespace Mine
theorem all_ne_of {news : List (Addr × Obj)} {L c : Nat} (h : ∀ p ∈ news, p.1 < L) (hc : L ≤ c) : ∀ p ∈ news, p.1 ≠ c := fun p hp e => by
  have q := h p hp
  rw [e] at q
  exact absurd (Nat.lt_of_lt_of_le q hc) (Nat.lt_irrefl _)
def preP (x y : Str) (k : Int) : Bool := Txt.slice x none (some k) == Txt.slice y none (some k)
theorem preP_yes {x y : Str} {l : List Int} {k : Int} (h : (Txt.slice x none (some k) == Txt.slice y none (some k)) = true) : keep (preP x y) l k = l ++ [k] := if_pos h
theorem preP_no {x y : Str} {l : List Int} {k : Int} (h : (Txt.slice x none (some k) == Txt.slice y none (some k)) = false) : keep (preP x y) l k = l := if_neg (by rw [show preP x y k = false from h]; decide)
theorem keep_of5 {q a b c d : Addr × Obj} {news : List (Addr × Obj)} : ∀ p ∈ q :: news, p ∈ q :: a :: b :: c :: d :: news := fun p hp => by
  rcases List.mem_cons.mp hp with h | h
  · exact h ▸ .head _
  · exact .tail _ (.tail _ (.tail _ (.tail _ (.tail _ h))))
theorem lt_of5 {D a b c d : Addr} {news : List (Addr × Obj)} (h : a < D ∧ b < D ∧ c < D ∧ d < D ∧ AllLt D news) : ∀ p ∈ news, p.1 < D := ktn_ltOf h.2.2.2.2
theorem due_mem {x y : Str} {z : Nat} {k : Int} (hxy : x.length ≤ y.length) (hz : z ≤ x.length) :
    k ∈ (rangeKs 0 (((Txt.slice x none (some ((x.length : Int) - (z : Int)))).length : Int) + 1 - 0).toNat).foldl (keep (preP (Txt.slice x none (some ((x.length : Int) - (z : Int)))) (Txt.slice y none (some ((y.length : Int) - (z : Int)))))) [] ↔ (0 ≤ k ∧ k ≤ (x.length : Int) - z) ∧ PreEq x y k.toNat := by
  have e0 := len_to (x := x) (j := (x.length : Int) - (z : Int)) (by omega) (by omega)
  have e : ((((Txt.slice x none (some ((x.length : Int) - (z : Int)))).length : Int) + 1 - 0).toNat : Int) = (x.length : Int) - z + 1 := by omega
  rw [keep_mem, e]
  constructor
  · rintro ⟨⟨a, b⟩, c⟩
    exact ⟨⟨a, by omega⟩, (pre_iff (by omega) (by omega) (by omega) (by omega) a (by omega) (by omega)).mp c⟩
  · rintro ⟨⟨a, b⟩, c⟩
    exact ⟨⟨a, by omega⟩, (pre_iff (by omega) (by omega) (by omega) (by omega) a (by omega) (by omega)).mpr c⟩
theorem due_ne {x y : Str} {z : Nat} (hxy : x.length ≤ y.length) (hz : z ≤ x.length) : 0 < ((rangeKs 0 (((Txt.slice x none (some ((x.length : Int) - (z : Int)))).length : Int) + 1 - 0).toNat).foldl (keep (preP (Txt.slice x none (some ((x.length : Int) - (z : Int)))) (Txt.slice y none (some ((y.length : Int) - (z : Int)))))) []).length :=
  List.length_pos_of_mem (a := 0) ((due_mem hxy hz).mpr ⟨⟨by omega, by omega⟩, by intro j hj; simp at hj⟩)
theorem due_end {x y : Str} {z : Nat} {M : Int} (hxy : x.length ≤ y.length) (hz : z ≤ x.length) (hs : SufEq x y z) (hn : z = x.length ∨ ¬ SufEq x y (z + 1))
    (hM : M ∈ (rangeKs 0 (((Txt.slice x none (some ((x.length : Int) - (z : Int)))).length : Int) + 1 - 0).toNat).foldl (keep (preP (Txt.slice x none (some ((x.length : Int) - (z : Int)))) (Txt.slice y none (some ((y.length : Int) - (z : Int)))))) [])
    (hX : ∀ a, a ∈ (rangeKs 0 (((Txt.slice x none (some ((x.length : Int) - (z : Int)))).length : Int) + 1 - 0).toNat).foldl (keep (preP (Txt.slice x none (some ((x.length : Int) - (z : Int)))) (Txt.slice y none (some ((y.length : Int) - (z : Int)))))) [] → a ≤ M) :
    IsPrep x y (((Txt.slice x none (some ((x.length : Int) - (z : Int)))).length : Int) - M) (((Txt.slice y none (some ((y.length : Int) - (z : Int)))).length : Int) - M) M := by
  obtain ⟨⟨h0, h1⟩, hp⟩ := (due_mem hxy hz).mp hM
  have e0 := len_to (x := x) (j := (x.length : Int) - (z : Int)) (by omega) (by omega)
  have e1 := len_to (x := y) (j := (y.length : Int) - (z : Int)) (by omega) (by omega)
  refine ⟨z, M.toNat, hz, hs, hn, by omega, hp, ?_, by omega, by omega, by omega⟩
  by_cases e : M.toNat + z = x.length
  · exact .inl e
  · refine .inr fun hq => ?_
    have e2 : (M + 1).toNat = M.toNat + 1 := by omega
    have := hX (M + 1) ((due_mem hxy hz).mpr ⟨⟨by omega, by omega⟩, by rw [e2]; exact hq⟩)
    omega
local macro_rules | `(tactic| k_all) => `(tactic| exact Mine.all_ne_of (by assumption) (by omega))
set_option maxRecDepth 100000 in
set_option maxHeartbeats 8000000 in
theorem due_ok : ∀ (w : World) (mean : ExcName → Option Value) (mg mb : Str → Option Value) (dp un : Nat) (gd : Option (List Code)) (cn : Str) (cs : Scope) (a : Addr) (ccd : Value) (cl : List (Str × Addr)) (outer : List Env) (A₀ : Around) (base h₀ : Heap) (L : Addr) (m : Str → Option Value) (news : List (Addr × Obj)) (s : Shared)
    (x y : Str) (t u : Tok) (Q E : Value → Shared → Prop),
    Below A₀ base outer h₀ → Fr h₀ L s.heap m → (hd.heap_39 w.params).In h₀ → News h₀ L s.heap news → Top hd.view_39 (looseW hd.view_39 []) mean mg mb h₀ → cs.kind = .function →
    x.length ≤ y.length → y.length ≤ 1000 → dp + 2 < recursionLimit → un + 16 < cLine →
    (∀ D o l1 l2 st t1 t2 t3 h' tk', IsPrep x y l1 l2 st → o = ({ cls := .type "tuple", data := .seq #[.int l1 t1, .int l2 t2, .int st t3] 0 } : Obj) → Fr h₀ L h' m → News h₀ L h' ((D, o) :: news) → (∀ p ∈ news, p.1 < D) → Q (.ref D) { s with heap := h', toks := tk' }) →
    wpAny (model Challenge.rw_fe0308_01.row.prog w) (ktrTop dp un gd cn cs L a ccd cl outer) (call (.ref 45) [.str x t, .str y u]) Q E s := by
  k_fill
  intro w mean mg mb dp un gd cn cs a ccd cl outer A₀ base h₀ L m news s x y t u Q E B F X N T hk hxy hy hdp hun hret
  k_with_none
  k_with "call ref" => (
    k_dflt refine' like_ok w _ _ _ _ _ _ _ _ _ _ _ _ _ _ _ _ _ _ _ _ _ _ _ _ _ ?k1 ?k2 ?k3 ?k4 ?k5 ?kK ?kl ?ki ?kd ?ku ?_
    (case k1 => k_asm)
    (case k2 => k_asm)
    (case k3 => k_asm)
    (case k4 => k_asm)
    (case k5 => k_asm)
    (case kK => first | exact rfl | assumption)
    (case kl => assumption)
    (case ki => assumption)
    (case kd => ktr_room)
    (case ku => ktr_units)
    intro z9 t9 h9 tk9 a9 b9 c9 F9 N9
    (try dsimp only)
    (try k_fold))
  k_with "CompSrcT" => (
    k_here
    k_dflt (refine LCt.CompSrcT.range (by rfl) (by k_asm) (by k_asm) (by assumption) (by exact small_one (by omega) (by omega) (by omega) (by omega)) (by exact rangeSize_nat _ _) (by rw [PySem.sizeLine_eq]; omega) ?_)
    intro g9
    refine' kci_range (keep (preP (Txt.slice x none (some ((x.length : Int) - (z9 : Int)))) (Txt.slice y none (some ((y.length : Int) - (z9 : Int)))))) (fun k' t' I' oI' C' oC' D' m' ys' l' h' tk' E' hlo' hhi' hI' hC' hx' F' N' off' ne' => ?_) ?_ ?_
    all_goals (try simp only [LCg.Off3, and_true] at off')
    all_goals (try ((show KPfMark → _); intro hMark'))
    kcf_last)
  k_with "KCiEl" => (refine kci_el (preP_yes (by assumption)) rfl rfl)
  k_with "KCiNo" => (refine kci_no (preP_no (by assumption)) rfl)
  k_with "CompEnd" => (refine LCg.CompEnd.intro (by assumption) (by assumption) _ (by exact fun _ hp => hp) (by simp only [LCg.Off3, and_true]; assumption) trivial ?_)
  k_with "call builtin:max" => (
    k_here
    (with_reducible show wpAny _ _ (call (Value.builtin _) [Value.ref _]) _ _ _)
    with_unfolding_all refine' kso_max ?k1 ?k2 ?k3 ?k4 ?k5 ?k6 ?_
    (case k1 => k_asm)
    (case k2 => k_asm)
    (case k3 => exact News.isList (by k_asm) (by k_mem))
    (case k4 => assumption)
    (case k5 => exact due_ne (by assumption) (by assumption))
    (case k6 => with_unfolding_all rfl)
    k_whole
    intro h8 M9 t8 tk8 F8 N8 hM9 hX9)
  k_with "KPfGrows" => exact keep_grows _
  refine wpAny_call ?_
  k_dflt (refine' code_defC ?k1 ?k2 ?k3 ?k4 ?k5 ?kA ?kF ?kK ?k6 ?k7 ?k8 ?k9 ?kB ?kD ?_ ?c2 ?c3 ?c4; (case kA => exact rfl); (case kF => exact rfl); (case kK => assumption); (case k1 => k_asm); (case k2 => k_asm); (case k3 => k_asm); (case k4 => k_asm); (case k5 => k_asm); (case k6 => k_is); (case k7 => k_is); (case k8 => ktr_room); (case k9 => exact BindsTo.of_eq rfl); (case kB => exact rfl); (case kD => decide +kernel); (case c2 => exact rfl); (case c3 => exact rfl); (case c4 => exact rfl); k_whole; intro g' L' h' tk' cells' FG' F' N' Y' B' X' T' l1; (try k_lt l1); k_cells Y'; (try simp only [List.cons_append, List.nil_append] at N'); (try dsimp only); (try k_lift B'); (try k_fold))
  k_steps
  refine hret _ _ _ _ _ _ _ _ _ _ (due_end hxy a9 b9 c9 hM9 hX9) rfl (by k_asm) (cb_drop (by assumption) keep_of5) (lt_of5 (by assumption))
end Mine
end PartC4

section PartC5
local macro_rules | `(tactic| walk_at "call ref") => `(tactic| k_extra "call ref")
local macro_rules | `(tactic| walk_at "compareOp Eq ref ref") => `(tactic| k_extra "compareOp Eq ref ref")
local macro_rules | `(tactic| k_all) => `(tactic| exact Mine.all_ne_of (by assumption) (by omega))
namespace Mine
set_option maxRecDepth 100000 in
set_option maxHeartbeats 8000000 in
theorem right_ok : ∀ (w : World) (mean : ExcName → Option Value) (mg mb : Str → Option Value) (dp un : Nat) (gd : Option (List Code)) (cn : Str) (cs : Scope) (a : Addr) (ccd : Value) (cl : List (Str × Addr)) (outer : List Env) (A₀ : Around) (base h₀ : Heap) (L : Addr) (m : Str → Option Value) (news : List (Addr × Obj)) (s : Shared)
    (x y : Str) (t u : Tok) (Q E : Value → Shared → Prop),
    Below A₀ base outer h₀ → Fr h₀ L s.heap m → (hd.heap_39 w.params).In h₀ → News h₀ L s.heap news → Top hd.view_39 (looseW hd.view_39 []) mean mg mb h₀ → cs.kind = .function →
    x.length ≤ y.length → y.length ≤ 1000 → dp + 3 < recursionLimit → un + 200 < cLine →
    (∀ h' tk', Fr h₀ L h' m → News h₀ L h' news → Q (.bool true) { s with heap := h', toks := tk' }) →
    wpAny (model Challenge.rw_fe0308_01.row.prog w) (ktrTop dp un gd cn cs L a ccd cl outer) (call (.ref 52) [.str x t, .str y u]) Q E s := by
  k_fill
  intro w mean mg mb dp un gd cn cs a ccd cl outer A₀ base h₀ L m news s x y t u Q E B F X N T hk hxy hy hdp hun hret
  k_with_none
  k_with "call ref" => (
    k_dflt refine' due_ok w _ _ _ _ _ _ _ _ _ _ _ _ _ _ _ _ _ _ _ _ _ _ _ _ _ ?k1 ?k2 ?k3 ?k4 ?k5 ?kK ?kl ?ki ?kd ?ku ?_
    (case k1 => k_asm)
    (case k2 => k_asm)
    (case k3 => k_asm)
    (case k4 => k_asm)
    (case k5 => k_asm)
    (case kK => first | exact rfl | assumption)
    (case kl => assumption)
    (case ki => assumption)
    (case kd => ktr_room)
    (case ku => ktr_units)
    intro D9 o9 l9 r9 s9 t9 u9 v9 h9 tk9 i9 e9 F9 N9 q9
    subst e9
    (try dsimp only)
    (try k_fold))
  k_with "call ref" => (
    k_dflt refine' prep_ok w _ _ _ _ _ _ _ _ _ _ _ _ _ _ _ _ _ _ _ _ _ _ _ _ _ ?k1 ?k2 ?k3 ?k4 ?k5 ?kK ?kl ?ki ?kd ?ku ?_
    (case k1 => k_asm)
    (case k2 => k_asm)
    (case k3 => k_asm)
    (case k4 => k_asm)
    (case k5 => k_asm)
    (case kK => first | exact rfl | assumption)
    (case kl => assumption)
    (case ki => assumption)
    (case kd => ktr_room)
    (case ku => ktr_units)
    intro D8 o8 l8 r8 s8 t8 u8 v8 h8 tk8 i8 e8 F8 N8 q8
    subst e8
    (try dsimp only)
    (try k_fold))
  k_with "compareOp Eq ref ref" => (
    k_here
    (with_reducible show wpAny _ _ (compareOp CmpOp.Eq (Value.ref _) (Value.ref _)) _ _ _)
    have e9 := isPrep_unique i8 i9
    obtain ⟨ea9, eb9, ec9⟩ := e9
    subst ea9 eb9 ec9
    k_dflt (refine eq_dataH (by ke_read) (by ke_read) (by ke_shaped) (by ke_shaped) (by first | ke_room | (simp only [units_in1, units_deeper, Around.mark_units, units_caller]; omega)) ?_)
    ke_norm)
  refine wpAny_call ?_
  k_dflt cell_enter
  k_steps
  refine hret _ _ (by k_asm) (cb_drop (by assumption) (fun p hp => .tail _ (.tail _ hp)))
end Mine
end PartC5

local macro_rules | `(tactic| walk_at "call ref") => `(tactic| k_extra "call ref")
set_option maxRecDepth 100000 in
set_option maxHeartbeats 8000000 in
theorem PySem.Challenge.cw_fe0308_01_holds : PySem.Challenge.rw_fe0308_01.Holds := by
  k_with_none
  k_with "call ref" => (
    (with_reducible show wpAny _ _ (call (Value.ref 21) _) _ _ _)
    k_dflt (
    refine' Mine.prep_ok _ _ _ _ _ _ _ _ _ _ _ _ _ _ _ _ _ _ _ _ _ _ _ _ _ _ ?k1 ?k2 ?k3 ?k4 ?k5 ?kK ?kl ?ki ?kd ?ku ?_
    (case k1 => k_asm)
    (case k2 => k_asm)
    (case k3 => k_asm)
    (case k4 => k_asm)
    (case k5 => k_asm)
    (case kK => first | exact rfl | assumption)
    (case kl => first | exact Nat.le_refl _ | exact Nat.zero_le _ | omega)
    (case ki => omega)
    (case kd => ktr_room)
    (case ku => ktr_units)
    intro D8 o8 l8 r8 s8 t8 u8 v8 h8 tk8 i8 e8 F8 N8 q8
    subst e8
    (first | have f8 := Mine.isPrep_unique i8 (Mine.isPrep_same _) | have f8 := Mine.isPrep_unique i8 (Mine.isPrep_empty (by decide)))
    obtain ⟨f8, f8b, f8c⟩ := f8
    subst f8 f8b f8c
    (try dsimp only)
    (try k_fold)))
  k_with "call ref" => (
    (with_reducible show wpAny _ _ (call (Value.ref 52) _) _ _ _)
    k_dflt (
    refine' Mine.right_ok _ _ _ _ _ _ _ _ _ _ _ _ _ _ _ _ _ _ _ _ _ _ _ _ _ _ ?k1 ?k2 ?k3 ?k4 ?k5 ?kK ?kl ?ki ?kd ?ku ?_
    (case k1 => k_asm)
    (case k2 => k_asm)
    (case k3 => k_asm)
    (case k4 => k_asm)
    (case k5 => k_asm)
    (case kK => first | exact rfl | assumption)
    (case kl => first | exact Nat.le_refl _ | exact Nat.zero_le _ | omega)
    (case ki => omega)
    (case kd => ktr_room)
    (case ku => ktr_units)
    intro h9 tk9 F9 N9
    (try dsimp only)
    (try k_fold)))
  k_with "call ref" => (
    (with_reducible show wpAny _ _ (call (Value.ref 35) _) _ _ _)
    k_dflt (
    refine' Mine.piece_ok _ _ _ _ _ _ _ _ _ _ _ _ _ _ _ _ _ _ _ _ _ _ _ _ _ _ _ _ _ ?k1 ?k2 ?k3 ?k4 ?k5 ?kK ?kl ?ki ?kn ?k0 ?k9 ?kx ?ky ?kd ?ku ?_
    (case k1 => k_asm)
    (case k2 => k_asm)
    (case k3 => k_asm)
    (case k4 => k_asm)
    (case k5 => k_asm)
    (case kK => first | exact rfl | assumption)
    (case ki => assumption)
    (case kl => k_mem)
    (case kn => omega)
    (case k0 => decide)
    (case k9 => decide)
    (case kx => decide)
    (case ky => decide)
    (case kd => ktr_room)
    (case ku => ktr_units)
    intro x9 t9 h9 tk9 hx9 F9 N9
    (try dsimp only)
    (try k_fold)))
  exact Mine.hd (by k_go)
