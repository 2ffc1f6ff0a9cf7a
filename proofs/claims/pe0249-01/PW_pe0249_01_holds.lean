import PyProof.Rows.All
import Wide.All
import OpenK.AllK
import Wide.FinOn
import Lean
import PySem.Challenge.RW_pe0249_01
set_option Elab.async false
set_option linter.unusedVariables false
set_option linter.unusedSimpArgs false
/-! part Top1 -/
section
open PySem PySem.W PyProof.Rows
namespace Mine
set_option maxRecDepth 100000 in
set_option maxHeartbeats 8000000 in
open_top hd for PySem.Challenge.rw_pe0249_01
end Mine

end
/-! part Pure1 -/
section
open PySem PySem.W PyProof.Rows PySem.Calls PySem.Spec
namespace Mine
/-- the codes of a text -/
noncomputable abbrev cs (x : Str) : List Nat := x.cps.toList
noncomputable abbrev mkS (l : List Nat) : Str := ⟨l.toArray⟩
theorem cs_len (x : Str) : (cs x).length = x.length := by simp [cs, Str.length]
theorem mkS_cs (x : Str) : mkS (cs x) = x := rfl
theorem cs_mkS (l : List Nat) : cs (mkS l) = l := rfl
theorem mkS_len (l : List Nat) : (mkS l).length = l.length := by simp [Str.length]
theorem mkS_inj {l l' : List Nat} (h : mkS l = mkS l') : l = l' := congrArg cs h
/-- the number of signs that two lists share at their heads -/
noncomputable def cpl : List Nat → List Nat → Nat
  | x :: xs, y :: ys => if x = y then cpl xs ys + 1 else 0
  | _, _ => 0
theorem cpl_nil_left (l : List Nat) : cpl [] l = 0 := by cases l <;> rfl
theorem cpl_nil_right (l : List Nat) : cpl l [] = 0 := by cases l <;> rfl
theorem cpl_le_left : ∀ (l l' : List Nat), cpl l l' ≤ l.length
  | [], l' => by simp [cpl_nil_left]
  | x :: xs, [] => by simp [cpl_nil_right]
  | x :: xs, y :: ys => by
    have := cpl_le_left xs ys
    unfold cpl
    split <;> simp <;> omega
theorem cpl_le_right : ∀ (l l' : List Nat), cpl l l' ≤ l'.length
  | [], l' => by simp [cpl_nil_left]
  | x :: xs, [] => by simp [cpl_nil_right]
  | x :: xs, y :: ys => by
    have := cpl_le_right xs ys
    unfold cpl
    split <;> simp <;> omega
theorem cpl_go {la lb : List Nat} {p : Nat} (h1 : p < la.length) (h2 : p < lb.length) (e : la[p] = lb[p]) :
    cpl (la.drop p) (lb.drop p) = cpl (la.drop (p + 1)) (lb.drop (p + 1)) + 1 := by
  rw [List.drop_eq_getElem_cons h1, List.drop_eq_getElem_cons h2]
  simp [cpl, e]
theorem cpl_no {la lb : List Nat} {p : Nat} (h1 : p < la.length) (h2 : p < lb.length) (e : la[p] ≠ lb[p]) :
    cpl (la.drop p) (lb.drop p) = 0 := by
  rw [List.drop_eq_getElem_cons h1, List.drop_eq_getElem_cons h2]
  simp [cpl, e]
theorem item_in {x : Str} {i : Int} (h0 : 0 ≤ i) (h1 : i < x.length) : Txt.item x i = mkS [(cs x)[i.toNat]'(by rw [cs_len]; omega)] := by
  rw [PySem.W.item_meets (x := x) (i := i) ⟨h0, h1⟩]
  have hl : i.toNat < x.cps.size := by have : x.cps.size = x.length := rfl; omega
  simp [Array.getD, hl]
theorem item_neg {x : Str} {i : Int} (h0 : i < 0) (h1 : -(x.length : Int) ≤ i) : Txt.item x i = mkS [(cs x).reverse[(-i - 1).toNat]'(by rw [List.length_reverse, cs_len]; omega)] := by
  have h := beq_iff_eq.mp (item_closes_neg (x := x) (i := i) (j := i + x.length) h0 h1 rfl)
  rw [h]
  have hs : x.cps.size = x.length := rfl
  have hl : (i + x.length).toNat < x.cps.size := by omega
  have hi : (cs x).length - 1 - (-i - 1).toNat = (i + x.length).toNat := by rw [cs_len]; omega
  simp only [List.getElem_reverse, hi]
  simp [Array.getD, hl]
theorem slice_from {x : Str} {i : Int} (h0 : 0 ≤ i) (h1 : i ≤ x.length) : Txt.slice x (some i) none = mkS ((cs x).drop i.toNat) := by
  rw [slice_from_eq (b := (x.length : Int)) h0 h1 rfl]
  have h : ((cs x).drop i.toNat).take ((x.length : Int) - i).toNat = (cs x).drop i.toNat := by
    refine List.take_of_length_le ?_
    rw [List.length_drop, cs_len]
    omega
  rw [h]
theorem slice_none (x : Str) : Txt.slice x none none = x := by
  unfold Txt.slice
  have : (Builtin.Str.strSliceIndices none none 1 x.length).length = x.length := by
    unfold Builtin.Str.strSliceIndices sliceRange
    simp only [show (1 : Int) > 0 by decide, if_true, List.length_map, List.length_range]
    split <;> (try simp only [Int.ediv_one]) <;> omega
  simp [this]
theorem slice_to {x : Str} {j : Int} (h0 : 0 ≤ j) (h1 : j ≤ x.length) : Txt.slice x none (some j) = mkS ((cs x).take j.toNat) := by
  have := beq_iff_eq.mp (slice_closes_toL (x := x) (j := j) h0 h1)
  rw [this]
  simp
theorem slice_to_neg {x : Str} {j : Int} (h0 : j < 0) (h1 : 0 ≤ j + x.length) : Txt.slice x none (some j) = mkS ((cs x).take (j + x.length).toNat) := by
  have e : Builtin.Str.strSliceIndices none (some j) 1 x.length = Builtin.Str.strSliceIndices none (some (j + x.length)) 1 x.length := by
    have h2 : ¬ (j + (x.length : Int) < 0) := by omega
    simp only [Builtin.Str.strSliceIndices, h0, h2, if_true, if_false]
  have e2 : Txt.slice x none (some j) = Txt.slice x none (some (j + x.length)) := by
    unfold Txt.slice
    rw [e]
  rw [e2, slice_to h1 (by omega)]
theorem take_all {x : Str} {q : Int} (h : q = 0) : x = mkS ((cs x).take (q + x.length).toNat) := by
  rw [List.take_of_length_le]
  rw [cs_len]
  omega
/-- what holds between the turns of the first while -/
noncomputable def W1 (a b : Str) (p : Int) : Prop := 0 ≤ p ∧ p ≤ a.length ∧ p ≤ b.length ∧ (cpl (cs a) (cs b) : Int) = p + cpl ((cs a).drop p.toNat) ((cs b).drop p.toNat)
theorem W1_start (a b : Str) : W1 a b 0 := by
  refine ⟨by omega, by omega, by omega, ?_⟩
  simp
theorem W1_turn {a b : Str} {p : Int} (h : W1 a b p) (h1 : p < a.length) (h2 : p < b.length) (e : (Txt.item a p == Txt.item b p) = true) : W1 a b (p + 1) := by
  obtain ⟨h0, _, _, hc⟩ := h
  rw [item_in h0 h1, item_in h0 h2] at e
  have e' := mkS_inj (beq_iff_eq.mp e)
  simp only [List.cons.injEq, and_true] at e'
  have g := cpl_go (la := cs a) (lb := cs b) (p := p.toNat) (by rw [cs_len]; omega) (by rw [cs_len]; omega) e'
  have hp : (p + 1).toNat = p.toNat + 1 := by omega
  refine ⟨by omega, by omega, by omega, ?_⟩
  rw [hp, hc, g]
  omega
theorem W1_endA {a b : Str} {p : Int} (h : W1 a b p) (h1 : (a.length : Int) ≤ p) : p = cpl (cs a) (cs b) := by
  obtain ⟨h0, _, _, hc⟩ := h
  rw [List.drop_of_length_le (l := cs a) (by rw [cs_len]; omega), cpl_nil_left] at hc
  omega
theorem W1_endB {a b : Str} {p : Int} (h : W1 a b p) (h1 : (b.length : Int) ≤ p) : p = cpl (cs a) (cs b) := by
  obtain ⟨h0, _, _, hc⟩ := h
  rw [List.drop_of_length_le (l := cs b) (by rw [cs_len]; omega), cpl_nil_right] at hc
  omega
theorem W1_endC {a b : Str} {p : Int} (h : W1 a b p) (h1 : p < a.length) (h2 : p < b.length) (e : (Txt.item a p == Txt.item b p) = false) : p = cpl (cs a) (cs b) := by
  obtain ⟨h0, _, _, hc⟩ := h
  rw [item_in h0 h1, item_in h0 h2] at e
  have e' := beq_eq_false_iff_ne.mp e
  have g := cpl_no (la := cs a) (lb := cs b) (p := p.toNat) (by rw [cs_len]; omega) (by rw [cs_len]; omega) (fun z => e' (by rw [z]))
  omega
/-- what holds between the turns of the second while -/
noncomputable def W2 (a b : Str) (q : Int) : Prop := q ≤ 0 ∧ -q ≤ a.length ∧ -q ≤ b.length ∧ (cpl (cs a).reverse (cs b).reverse : Int) = -q + cpl ((cs a).reverse.drop (-q).toNat) ((cs b).reverse.drop (-q).toNat)
theorem W2_start (a b : Str) : W2 a b 0 := by
  refine ⟨by omega, by omega, by omega, ?_⟩
  simp
theorem W2_turn {a b : Str} {q : Int} (h : W2 a b q) (h1 : -q < a.length) (h2 : -q < b.length) (e : (Txt.item a (q - 1) == Txt.item b (q - 1)) = true) : W2 a b (q - 1) := by
  obtain ⟨h0, _, _, hc⟩ := h
  rw [item_neg (by omega) (by omega), item_neg (by omega) (by omega)] at e
  have e' := mkS_inj (beq_iff_eq.mp e)
  simp only [List.cons.injEq, and_true] at e'
  have hp0 : (-(q - 1) - 1).toNat = (-q).toNat := by omega
  simp only [hp0] at e'
  have g := cpl_go (la := (cs a).reverse) (lb := (cs b).reverse) (p := (-q).toNat) (by rw [List.length_reverse, cs_len]; omega) (by rw [List.length_reverse, cs_len]; omega) e'
  have hp : (-(q - 1)).toNat = (-q).toNat + 1 := by omega
  refine ⟨by omega, by omega, by omega, ?_⟩
  rw [hp, hc, g]
  omega
theorem W2_endA {a b : Str} {q : Int} (h : W2 a b q) (h1 : (a.length : Int) ≤ -q) : -q = cpl (cs a).reverse (cs b).reverse := by
  obtain ⟨h0, _, _, hc⟩ := h
  rw [List.drop_of_length_le (l := (cs a).reverse) (by rw [List.length_reverse, cs_len]; omega), cpl_nil_left] at hc
  omega
theorem W2_endB {a b : Str} {q : Int} (h : W2 a b q) (h1 : (b.length : Int) ≤ -q) : -q = cpl (cs a).reverse (cs b).reverse := by
  obtain ⟨h0, _, _, hc⟩ := h
  rw [List.drop_of_length_le (l := (cs b).reverse) (by rw [List.length_reverse, cs_len]; omega), cpl_nil_right] at hc
  omega
theorem W2_endC {a b : Str} {q : Int} (h : W2 a b q) (h1 : -q < a.length) (h2 : -q < b.length) (e : (Txt.item a (q - 1) == Txt.item b (q - 1)) = false) : -q = cpl (cs a).reverse (cs b).reverse := by
  obtain ⟨h0, _, _, hc⟩ := h
  rw [item_neg (by omega) (by omega), item_neg (by omega) (by omega)] at e
  have hp0 : (-(q - 1) - 1).toNat = (-q).toNat := by omega
  simp only [hp0] at e
  have e' := beq_eq_false_iff_ne.mp e
  have g := cpl_no (la := (cs a).reverse) (lb := (cs b).reverse) (p := (-q).toNat) (by rw [List.length_reverse, cs_len]; omega) (by rw [List.length_reverse, cs_len]; omega) (fun z => e' (by rw [z]))
  omega
end Mine
namespace Mine
/-- one turn of the inner loop: row, distance, result, minimum -/
noncomputable def stp (bc : Nat) (la : List Nat) (st : List Int × Int × Int × Int) (i : Nat) : List Int × Int × Int × Int :=
  let sub := st.2.1 + (if bc = la.getD i 0 then 0 else 2)
  let d := st.1.getD i 0
  let m1 := (if d < st.2.2.1 then d else st.2.2.1) + 2
  let r := if sub < m1 then sub else m1
  (st.1.set i r, d, r, if r < st.2.2.2 then r else st.2.2.2)
noncomputable def inn (bc : Nat) (la : List Nat) (st : List Int × Int × Int × Int) : Nat → List Int × Int × Int × Int
  | 0 => st
  | k + 1 => stp bc la (inn bc la st k) k
noncomputable def bigN : Int := 9223372036854775807
/-- the outer loop: none where it has left early -/
noncomputable def out (la lb : List Nat) (c : Int) (row : List Int) : Nat → Option (List Int × Int)
  | 0 => some (row, 0)
  | k + 1 => match out la lb c row k with
    | none => none
    | some (r, _) =>
      let st := inn (lb.getD k 0) la (r, 2 * (k : Int), 2 * (k : Int), bigN) la.length
      if st.2.2.2 > c then none else some (st.1, st.2.2.1)
noncomputable def row0 (n : Nat) : List Int := (List.range n).map fun (i : Nat) => 2 + 2 * (i : Int)
theorem row0_len (n : Nat) : (row0 n).length = n := by simp [row0]
/-- the heart, the shorter text first -/
noncomputable def dpL (la lb : List Nat) (c : Int) : Int :=
  if ((lb.length : Int) - la.length) * 2 > c then c + 1 else
  match out la lb c (row0 la.length) lb.length with
  | none => c + 1
  | some (_, r) => r
noncomputable def levL (la lb : List Nat) (c : Int) : Int :=
  if la = lb then 0 else
  let p := cpl la lb
  let la := la.drop p
  let lb := lb.drop p
  let q := cpl la.reverse lb.reverse
  let la := la.take (la.length - q)
  let lb := lb.take (lb.length - q)
  if la = [] ∨ lb = [] then 2 * ((la.length : Int) + lb.length) else
  if lb.length < la.length then dpL lb la c else dpL la lb c
noncomputable def levF (a b : Str) (c : Int) : Int := levL (cs a) (cs b) c
/-- the signs that the texts of this law are made of -/
noncomputable def alpha : List Nat := [46, 34, 92, 97, 98, 112, 61]
noncomputable def okL (l : List Nat) : Bool := l.all fun c => alpha.contains c
noncomputable def subF (a b : Str) : Int := if a = b then 0 else if Txt.lower a = Txt.lower b then 1 else 2
theorem sub_alpha : ∀ x ∈ alpha, ∀ y ∈ alpha, subF (mkS [x]) (mkS [y]) = if x = y then 0 else 2 := by decide +kernel
theorem inn_len (bc : Nat) (la : List Nat) (st : List Int × Int × Int × Int) : ∀ k, (inn bc la st k).1.length = st.1.length
  | 0 => rfl
  | k + 1 => by
    show (stp bc la (inn bc la st k) k).1.length = _
    unfold stp
    simp only [List.length_set]
    exact inn_len bc la st k
theorem out_stays {la lb : List Nat} {c : Int} {row : List Int} {k : Nat} (h : out la lb c row k = none) : ∀ n, k ≤ n → out la lb c row n = none
  | 0, hn => by
    have : k = 0 := by omega
    subst this
    exact h
  | n + 1, hn => by
    by_cases e : k = n + 1
    · subst e; exact h
    · have := out_stays h n (by omega)
      unfold out
      rw [this]
theorem lev_try : levL [1, 2, 4] [1, 3, 4] 5 = 2 := by decide +kernel
end Mine
namespace Mine
noncomputable def midL (la lb : List Nat) (c : Int) : Int :=
  if la = [] ∨ lb = [] then 2 * ((la.length : Int) + lb.length) else
  if lb.length < la.length then dpL lb la c else dpL la lb c
theorem lev_same {a b : Str} {c : Int} (h : (a == b) = true) : levF a b c = 0 := by
  have := beq_iff_eq.mp h
  subst this
  simp [levF, levL]
theorem lev_mid {a b A B A2 B2 : Str} {c p q : Int} (h : (a == b) = false) (hp : p = cpl (cs a) (cs b)) (hA : A = mkS ((cs a).drop p.toNat)) (hB : B = mkS ((cs b).drop p.toNat))
    (hq : -q = cpl (cs A).reverse (cs B).reverse) (hqa : -q ≤ A.length) (hqb : -q ≤ B.length) (hA2 : A2 = mkS ((cs A).take (q + A.length).toNat)) (hB2 : B2 = mkS ((cs B).take (q + B.length).toNat)) : levF a b c = midL (cs A2) (cs B2) c := by
  have hne : cs a ≠ cs b := fun e => (beq_eq_false_iff_ne.mp h) (by rw [← mkS_cs a, ← mkS_cs b, e])
  have ep : p.toNat = cpl (cs a) (cs b) := by omega
  have eA : cs A = (cs a).drop (cpl (cs a) (cs b)) := by rw [hA, ep]
  have eB : cs B = (cs b).drop (cpl (cs a) (cs b)) := by rw [hB, ep]
  have iA : (q + A.length).toNat = (cs A).length - cpl (cs A).reverse (cs B).reverse := by rw [cs_len]; omega
  have iB : (q + B.length).toNat = (cs B).length - cpl (cs A).reverse (cs B).reverse := by rw [cs_len]; omega
  have eA2 : cs A2 = (cs A).take ((cs A).length - cpl (cs A).reverse (cs B).reverse) := by rw [hA2, iA]
  have eB2 : cs B2 = (cs B).take ((cs B).length - cpl (cs A).reverse (cs B).reverse) := by rw [hB2, iB]
  unfold levF levL midL
  rw [if_neg hne, eA2, eB2, eA, eB]
theorem nil_of {x : Str} (h : x.length = 0) : cs x = [] := List.eq_nil_of_length_eq_zero (by rw [cs_len]; exact h)
theorem mid_emptyA {x y : Str} {c : Int} (h : x.length = 0) : 2 * ((x.length : Int) + y.length) = midL (cs x) (cs y) c := by
  unfold midL
  rw [if_pos (.inl (nil_of h)), cs_len, cs_len]
theorem mid_emptyB {x y : Str} {c : Int} (h : y.length = 0) : 2 * ((x.length : Int) + y.length) = midL (cs x) (cs y) c := by
  unfold midL
  rw [if_pos (.inr (nil_of h)), cs_len, cs_len]
theorem mid_swap {x y x' y' : Str} {c : Int} (hx : x.length ≠ 0) (hy : y.length ≠ 0) (h : (x', y') = if y.length < x.length then (y, x) else (x, y)) : midL (cs x) (cs y) c = dpL (cs x') (cs y') c := by
  have n1 : ¬ (cs x = [] ∨ cs y = []) := by
    rintro (e | e)
    · exact hx (by rw [← cs_len, e]; rfl)
    · exact hy (by rw [← cs_len, e]; rfl)
  unfold midL
  rw [if_neg n1, cs_len, cs_len]
  split at h <;> (injection h with h1 h2; subst h1 h2)
  · rw [if_pos (by assumption)]
  · rw [if_neg (by assumption)]
theorem dp_far {x y : Str} {c : Int} (h : ((y.length : Int) - x.length) * 2 > c) : c + 1 = dpL (cs x) (cs y) c := by
  unfold dpL
  rw [cs_len, cs_len, if_pos h]
theorem dp_out {x y : Str} {c r : Int} {row : List Int} (h : ¬ ((y.length : Int) - x.length) * 2 > c) (ho : out (cs x) (cs y) c (row0 x.length) y.length = some (row, r)) : r = dpL (cs x) (cs y) c := by
  unfold dpL
  rw [cs_len, cs_len, if_neg h, ho]
theorem dp_none {x y : Str} {c : Int} {k : Nat} (h : ¬ ((y.length : Int) - x.length) * 2 > c) (ho : out (cs x) (cs y) c (row0 x.length) k = none) (hk : k ≤ y.length) : c + 1 = dpL (cs x) (cs y) c := by
  unfold dpL
  rw [cs_len, cs_len, if_neg h, out_stays ho _ hk]
theorem ok_all {l : List Nat} (h : okL l = true) : ∀ x ∈ l, x ∈ alpha := fun x hx => by
  have := List.all_eq_true.mp h x hx
  simpa using this
theorem ok_sub {l l' : List Nat} (h : ∀ x ∈ l, x ∈ alpha) (hs : ∀ x ∈ l', x ∈ l) : ∀ x ∈ l', x ∈ alpha := fun x hx => h x (hs x hx)
end Mine
namespace Mine
noncomputable def PO (x y : Str) (c : Int) (k : Nat) (r : Int) (row : List Int) : Prop := out (cs x) (cs y) c (row0 x.length) k = some (row, r)
noncomputable def PI (bch x : Str) (row9 : List Int) (bi : Int) (k : Nat) (d r mn : Int) (row : List Int) : Prop := (row, d, r, mn) = inn ((cs bch).headD 0) (cs x) (row9, 2 * bi, 2 * bi, bigN) k
theorem PO_start (x y : Str) (c : Int) : PO x y c 0 0 (row0 x.length) := rfl
theorem PI_start (bch x : Str) (row9 : List Int) (bi : Int) : PI bch x row9 bi 0 (bi * 2) (bi * 2) 9223372036854775807 row9 := by
  unfold PI inn
  rw [Int.mul_comm]
  rfl
end Mine
namespace Mine
theorem item_alpha {x : Str} {i : Int} (h0 : 0 ≤ i) (h1 : i < x.length) (ok : ∀ c ∈ cs x, c ∈ alpha) : ∃ c ∈ alpha, Txt.item x i = mkS [c] := by
  rw [item_in h0 h1]
  exact ⟨_, ok _ (List.getElem_mem _), rfl⟩
theorem sub_cost {bch x : Str} {i : Int} (hb : ∃ c ∈ alpha, bch = mkS [c]) (h0 : 0 ≤ i) (h1 : i < x.length) (ok : ∀ c ∈ cs x, c ∈ alpha) : subF bch (Txt.item x i) = if (cs bch).headD 0 = (cs x).getD i.toNat 0 then 0 else 2 := by
  obtain ⟨c, hc, rfl⟩ := hb
  have hi : i.toNat < (cs x).length := by rw [cs_len]; omega
  rw [item_in h0 h1, sub_alpha c hc _ (ok _ (List.getElem_mem hi))]
  have e : (cs x).getD i.toNat 0 = (cs x)[i.toNat] := by rw [List.getD_eq_getElem?_getD, List.getElem?_eq_getElem hi]; rfl
  rw [e]
  rfl
theorem PI_next {bch x : Str} {row9 row : List Int} {bi d r mn kN : Int} {pre : List Int} (h : PI bch x row9 bi pre.length d r mn row) (hk : kN = 0 + (pre.length : Int)) (hlt : kN < x.length)
    (hb : ∃ c ∈ alpha, bch = mkS [c]) (ok : ∀ c ∈ cs x, c ∈ alpha) :
    inn ((cs bch).headD 0) (cs x) (row9, 2 * bi, 2 * bi, bigN) (pre ++ [kN]).length = stp ((cs bch).headD 0) (cs x) (row, d, r, mn) kN.toNat := by
  have e : (pre ++ [kN]).length = pre.length + 1 := by simp
  have e2 : kN.toNat = pre.length := by omega
  rw [e, e2]
  show stp _ _ (inn _ _ _ pre.length) pre.length = _
  rw [← h]
theorem PI_lt {bch x : Str} {row9 row : List Int} {bi d r mn kN r' : Int} {pre : List Int} (h : PI bch x row9 bi pre.length d r mn row) (hk : kN = 0 + (pre.length : Int)) (hlt : kN < x.length)
    (hb : ∃ c ∈ alpha, bch = mkS [c]) (ok : ∀ c ∈ cs x, c ∈ alpha)
    (hr : r' = if d + subF bch (Txt.item x kN) < (if row.getD kN.toNat 0 < r then row.getD kN.toNat 0 else r) + 2 then d + subF bch (Txt.item x kN) else (if row.getD kN.toNat 0 < r then row.getD kN.toNat 0 else r) + 2) (hm : r' < mn) :
    PI bch x row9 bi (pre ++ [kN]).length (row.getD kN.toNat 0) r' r' (row.set kN.toNat r') := by
  unfold PI
  rw [PI_next h hk hlt hb ok]
  rw [sub_cost hb (by omega) hlt ok] at hr
  unfold stp
  simp only
  rw [← hr, if_pos hm]
theorem PI_ge {bch x : Str} {row9 row : List Int} {bi d r mn kN r' : Int} {pre : List Int} (h : PI bch x row9 bi pre.length d r mn row) (hk : kN = 0 + (pre.length : Int)) (hlt : kN < x.length)
    (hb : ∃ c ∈ alpha, bch = mkS [c]) (ok : ∀ c ∈ cs x, c ∈ alpha)
    (hr : r' = if d + subF bch (Txt.item x kN) < (if row.getD kN.toNat 0 < r then row.getD kN.toNat 0 else r) + 2 then d + subF bch (Txt.item x kN) else (if row.getD kN.toNat 0 < r then row.getD kN.toNat 0 else r) + 2) (hm : ¬ r' < mn) :
    PI bch x row9 bi (pre ++ [kN]).length (row.getD kN.toNat 0) r' mn (row.set kN.toNat r') := by
  unfold PI
  rw [PI_next h hk hlt hb ok]
  rw [sub_cost hb (by omega) hlt ok] at hr
  unfold stp
  simp only
  rw [← hr, if_neg hm]
theorem all_app {α : Type} {P : α → Prop} {l l' : List α} (h : ∀ p ∈ l, P p) (h' : ∀ p ∈ l', P p) : ∀ p ∈ l ++ l', P p := fun p hp => (List.mem_append.mp hp).elim (h p) (h' p)
end Mine
namespace Mine
theorem item_head {y : Str} {k : Int} (h0 : 0 ≤ k) (h1 : k < y.length) : (cs (Txt.item y k)).headD 0 = (cs y).getD k.toNat 0 := by
  have hi : k.toNat < (cs y).length := by rw [cs_len]; omega
  rw [item_in h0 h1, List.getD_eq_getElem?_getD, List.getElem?_eq_getElem hi]
  rfl
theorem PO_next {x y : Str} {c r0 kN d r mn : Int} {row9 row pre : List Int} {n : Nat} (h : PO x y c pre.length r0 row9) (hi : PI (Txt.item y kN) x row9 kN n d r mn row) (hn : n = x.length) (hk : kN = 0 + (pre.length : Int)) (hlt : kN < y.length) :
    out (cs x) (cs y) c (row0 x.length) (pre ++ [kN]).length = if mn > c then none else some (row, r) := by
  have e : (pre ++ [kN]).length = pre.length + 1 := by simp
  have e2 : kN.toNat = pre.length := by omega
  have e3 : kN = (pre.length : Int) := by omega
  rw [e]
  unfold out
  unfold PO at h
  rw [h]
  simp only
  unfold PI at hi
  rw [item_head (by omega) hlt, e2, hn, e3, ← cs_len] at hi
  rw [← hi]
theorem PO_on {x y : Str} {c r0 kN d r mn : Int} {row9 row pre : List Int} {n : Nat} (h : PO x y c pre.length r0 row9) (hi : PI (Txt.item y kN) x row9 kN n d r mn row) (hn : n = x.length) (hk : kN = 0 + (pre.length : Int)) (hlt : kN < y.length) (hc : ¬ mn > c) :
    PO x y c (pre ++ [kN]).length r row := by
  unfold PO
  rw [PO_next h hi hn hk hlt, if_neg hc]
theorem PO_off {x y : Str} {c r0 kN d r mn : Int} {row9 row pre : List Int} {n : Nat} (h : PO x y c pre.length r0 row9) (hi : PI (Txt.item y kN) x row9 kN n d r mn row) (hn : n = x.length) (hk : kN = 0 + (pre.length : Int)) (hlt : kN < y.length) (hc : mn > c) (hf : ¬ ((y.length : Int) - x.length) * 2 > c) :
    c + 1 = dpL (cs x) (cs y) c := by
  refine dp_none (k := (pre ++ [kN]).length) hf ?_ ?_
  · rw [PO_next h hi hn hk hlt, if_pos hc]
  · simp only [List.length_append, List.length_cons, List.length_nil]
    omega
theorem PO_end {x y : Str} {c r : Int} {row : List Int} {n : Nat} (h : PO x y c n r row) (hn : n = y.length) (hf : ¬ ((y.length : Int) - x.length) * 2 > c) : r = dpL (cs x) (cs y) c := by
  subst hn
  exact dp_out hf h
end Mine

end
/-! part Cut1 -/
section
open PySem PySem.W PyProof.Rows PySem.Calls PySem.Spec
namespace Mine
/-- behind a statement: it returned, or it went on with the names ps c bound anew -/
noncomputable def CutPost {σ : Type} (h₀ : Heap) (L : Addr) (m : Str → Option Value) (s : Shared) (Led : σ → List (Addr × Obj)) (ps : σ → List (Str × Value)) (P : σ → Prop) (Q : Flow → Shared → Prop) (f : Flow) (s₂ : Shared) : Prop :=
  match f with
  | .ret v => Q (.ret v) s₂
  | .next => ∃ (c : σ) (h : Heap) (tk : Nat) (m' : Str → Option Value), s₂ = { s with heap := h, toks := tk } ∧ Fr h₀ L h m' ∧ News h₀ L h (Led c) ∧ m' = kstB m (ps c) ∧ P c
  | _ => False
theorem cut_next {M : Model} {A : Around} {E : Value → Shared → Prop} {t : Sem Flow} {Q : Flow → Shared → Prop} {s : Shared} {h₀ : Heap} {L : Addr} {m : Str → Option Value} {σ : Type}
    (Led : σ → List (Addr × Obj)) (ps : σ → List (Str × Value)) (P : σ → Prop) (_F : Fr h₀ L s.heap m)
    (body : wpAny M A t (CutPost h₀ L m s Led ps P Q) E s)
    (cont : ∀ (c : σ) (h : Heap) (tk : Nat), P c → Fr h₀ L h (kstB m (ps c)) → News h₀ L h (Led c) → Q .next { s with heap := h, toks := tk }) :
    wpAny M A t Q E s := by
  refine wpAny_mono body (fun f s₂ q => ?_) fun _ _ x => x
  cases f with
  | ret v => exact q
  | next =>
    obtain ⟨c, h, tk, m', rfl, F, N, rfl, p⟩ := q
    exact cont c h tk p F N
  | brk => exact q.elim
  | cont => exact q.elim
theorem cut_in {σ : Type} {h₀ : Heap} {L : Addr} {m m' : Str → Option Value} {s : Shared} {Led : σ → List (Addr × Obj)} {ps : σ → List (Str × Value)} {P : σ → Prop} {Q : Flow → Shared → Prop} {h : Heap} {tk : Nat} {news : List (Addr × Obj)} (c : σ)
    (F : Fr h₀ L h m') (N : News h₀ L h news) (hn : ∀ p ∈ Led c, p ∈ news) (hm : ∀ z, m' z = kstB m (ps c) z) (hp : P c) : CutPost h₀ L m s Led ps P Q .next { s with heap := h, toks := tk } :=
  ⟨c, h, tk, m', rfl, F, fun p hp => N p (hn p hp), funext hm, hp⟩
section
variable {prog : Program} {w : World} {A : Around} {E : Value → Shared → Prop} {s : Shared} {value slice : PySem.Expr} {x : Str} {t : Tok} {h₀ : Heap} {L : Addr} {m : Str → Option Value} {news : List (Addr × Obj)} {Q : Value → Shared → Prop}
theorem sl_nn (hF : Fr h₀ L s.heap m) (hN : News h₀ L s.heap news) (h : ∀ h' t' k, Fr h₀ L h' m → News h₀ L h' news → Q (.str x t') { s with heap := h', toks := k })
    (hs : subscripted slice false (.str x t) (.ref s.heap.objs.size) = operate [.ref s.heap.objs.size, .str x t] (getItem (.str x t) (.ref s.heap.objs.size)) := by with_unfolding_all rfl)
    (ht : ∀ r, letTemporaryGo value (.str x t) r = pure () := by intro _; with_unfolding_all rfl) (hsz : x.length ≤ sizeLine := by size_fits) :
    wpAny (model prog w) A (subscriptTail value slice (.str x t) (.ref s.heap.objs.size)) Q E { s with heap := s.heap.push { cls := .type "slice", data := .fields #[.none, .none, .none] } } :=
  slice_strN_nn hF hN (fun h' t' k a b => by rw [slice_none]; exact h h' t' k a b) hs ht hsz
theorem sl_neg {j : Int} {uj : Tok} (hF : Fr h₀ L s.heap m) (hN : News h₀ L s.heap news) (hj : j < 0) (hj2 : 0 ≤ j + x.length)
    (h : ∀ h' t' k, Fr h₀ L h' m → News h₀ L h' news → (mkS ((cs x).take (j + x.length).toNat)).length = (j + x.length).toNat → Q (.str (mkS ((cs x).take (j + x.length).toNat)) t') { s with heap := h', toks := k })
    (hs : subscripted slice false (.str x t) (.ref s.heap.objs.size) = operate [.ref s.heap.objs.size, .str x t] (getItem (.str x t) (.ref s.heap.objs.size)) := by with_unfolding_all rfl)
    (ht : ∀ r, letTemporaryGo value (.str x t) r = pure () := by intro _; with_unfolding_all rfl) (hsz : x.length ≤ sizeLine := by size_fits) :
    wpAny (model prog w) A (subscriptTail value slice (.str x t) (.ref s.heap.objs.size)) Q E { s with heap := s.heap.push { cls := .type "slice", data := .fields #[.none, .int j uj, .none] } } :=
  slice_strN_ns hF hN (fun h' t' k a b => by rw [slice_to_neg hj hj2]; exact h h' t' k a b (by rw [mkS_len, List.length_take, cs_len]; omega)) hs ht hsz
end
end Mine
namespace Mine
theorem ints_of : ∀ (vs : List Value) (a c : Int) (n : Nat), vs.length = n → (∀ (j : Nat) (v : Value), vs[j]? = some v → ∃ t, v = .int (a + (j : Int) * c) t) → IntsAre vs ((List.range n).map fun (i : Nat) => a + (i : Int) * c)
  | [], a, c, n, hn, _ => by
    have : n = 0 := by simpa using hn.symm
    subst this
    exact .nil
  | v :: r, a, c, n, hn, h => by
    obtain ⟨k, rfl⟩ : ∃ k, n = k + 1 := ⟨r.length, by simpa using hn.symm⟩
    obtain ⟨t, rfl⟩ := h 0 v rfl
    have hr : r.length = k := by simpa using hn
    have z := ints_of r (a + c) c k hr (fun j v hj => by
      obtain ⟨t', ht'⟩ := h (j + 1) v (by simpa using hj)
      refine ⟨t', ht'.trans ?_⟩
      congr 1
      push_cast
      rw [Int.add_mul]
      omega)
    have e : (List.range (k + 1)).map (fun (i : Nat) => a + (i : Int) * c) = (a + (0 : Int) * c) :: (List.range k).map (fun (i : Nat) => a + c + (i : Int) * c) := by
      rw [List.range_succ_eq_map, List.map_cons, List.map_map]
      congr 1
      refine List.map_congr_left fun i _ => ?_
      show a + ((i + 1 : Nat) : Int) * c = a + c + (i : Int) * c
      push_cast
      rw [Int.add_mul]
      omega
    rw [e]
    exact .cons _ _ z
set_option maxRecDepth 100000 in
theorem r2_list {prog : Program} {w : World} {A : Around} {E : Value → Shared → Prop} {s : Shared} {h₀ : Heap} {L r : Addr} {m : Str → Option Value} {news : List (Addr × Obj)} {n : Nat} {t₀ u₀ v₀ : Tok} {Q : Value → Shared → Prop}
    (hh : A.handled = none) (F : Fr h₀ L s.heap m) (N : News h₀ L s.heap news) (hr : IsRange s.heap r 2 (2 * ((n : Int) + 1)) 2 t₀ u₀ v₀) (hz : n ≤ 40)
    (h : ∀ D us c h' tk, Fr h₀ L h' m → News h₀ L h' ((D, listOf (List.toArray us) c) :: news) → (∀ p ∈ news, p.1 < D) → IntsAre us (row0 n) → Q (.ref D) { s with heap := h', toks := tk }) :
    wpAny (model prog w) A (call (.type "list") [.ref r]) Q E s := by
  have hn : Builtin.Range.rangeSize 2 (2 * ((n : Int) + 1)) 2 = (n : Int) := by
    unfold Builtin.Range.rangeSize
    split
    · split <;> omega
    · omega
  have hsmall : Builtin.Range.small 2 (2 * ((n : Int) + 1)) 2 = true := by
    unfold Builtin.Range.small
    rw [hn]
    have f : ∀ x : Int, -1000 ≤ x → x < 1000 → Builtin.Range.rangeFitsLong x = true := by
      intro x h1 h2
      unfold Builtin.Range.rangeFitsLong
      rw [Bool.and_eq_true, decide_eq_true_eq, decide_eq_true_eq]
      omega
    rw [f 2 (by omega) (by omega), f (2 * ((n : Int) + 1)) (by omega) (by omega), f (n : Int) (by omega) (by omega), if_pos (by omega), f _ (by omega) (by omega)]
    simp
  refine call_list_range hh hr hsmall hn (by omega) fun h' tk acc c hk hD hI => ?_
  have hD' : h'.get? s.heap.objs.size = some (listOf (List.toArray acc.toList) c) := by
    rw [Array.toArray_toList]
    exact hD
  have hi := ints_of acc.toList 2 2 n (by rw [Array.length_toList]; exact hI.1) fun j v hj => hI.2 j v (by rw [← hj, Array.getElem?_toList])
  have e : (List.range n).map (fun (i : Nat) => 2 + (i : Int) * 2) = row0 n := by
    unfold row0
    refine List.map_congr_left fun i _ => ?_
    omega
  rw [e] at hi
  exact h _ acc.toList c h' tk (F.keeps hk) (news_pushed F N hk hD' rfl) (fun p hp => Heap.lt_size (N p hp).1) hi
end Mine
namespace Mine
theorem fr_re {h₀ h : Heap} {L : Addr} {m : Str → Option Value} {x : Str} {v : Value} (F : Fr h₀ L h m) (hx : m x = some v) : Fr h₀ L h (fun y => if y = x then some v else m y) := by
  have e : (fun y => if y = x then some v else m y) = m := by
    funext y
    by_cases hy : y = x
    · rw [if_pos hy, hy, hx]
    · rw [if_neg hy]
  rw [e]
  exact F
end Mine
namespace Mine
theorem kst_same2 {m : Str → Option Value} {x y : Str} {v u : Value} (hx : m x = some v) (hy : m y = some u) : ∀ z, m z = kstB m [(x, v), (y, u)] z := by
  intro z
  show m z = if z = x then some v else if z = y then some u else m z
  by_cases h1 : z = x
  · rw [if_pos h1, h1, hx]
  · rw [if_neg h1]
    by_cases h2 : z = y
    · rw [if_pos h2, h2, hy]
    · rw [if_neg h2]
theorem swap_le {A2 B2 A3 B3 : Str} (h : (A3, B3) = if B2.length < A2.length then (B2, A2) else (A2, B2)) : (A3 = B2 ∧ B3 = A2) ∨ (A3 = A2 ∧ B3 = B2) := by
  split at h
  · injection h with h1 h2
    exact .inl ⟨h1, h2⟩
  · injection h with h1 h2
    exact .inr ⟨h1, h2⟩
end Mine
namespace Mine
theorem swap_pos {A2 B2 : Str} (h : B2.length < A2.length) : (B2, A2) = if B2.length < A2.length then (B2, A2) else (A2, B2) := by rw [if_pos h]
theorem swap_neg {A2 B2 : Str} (h : ¬ B2.length < A2.length) : (A2, B2) = if B2.length < A2.length then (B2, A2) else (A2, B2) := by rw [if_neg h]
end Mine
namespace Mine
theorem al0 {D : Addr} : ∀ {l : List (Addr × Obj)}, AllLt D l → ∀ p ∈ l, p.1 ≠ D
  | [], _ => fun _ hp => nomatch hp
  | q :: r, h => fun p hp => by
    rcases List.mem_cons.mp hp with rfl | hp
    · exact Nat.ne_of_lt h.1
    · exact al0 h.2 p hp
theorem al1 {D : Addr} {l : List (Addr × Obj)} {a0 : Prop} (h : a0 ∧ AllLt D l) : ∀ p ∈ l, p.1 ≠ D := al0 h.2
theorem al2 {D : Addr} {l : List (Addr × Obj)} {a0 a1 : Prop} (h : a0 ∧ a1 ∧ AllLt D l) : ∀ p ∈ l, p.1 ≠ D := al0 h.2.2
theorem al3 {D : Addr} {l : List (Addr × Obj)} {a0 a1 a2 : Prop} (h : a0 ∧ a1 ∧ a2 ∧ AllLt D l) : ∀ p ∈ l, p.1 ≠ D := al0 h.2.2.2
theorem al4 {D : Addr} {l : List (Addr × Obj)} {a0 a1 a2 a3 : Prop} (h : a0 ∧ a1 ∧ a2 ∧ a3 ∧ AllLt D l) : ∀ p ∈ l, p.1 ≠ D := al0 h.2.2.2.2
theorem al5 {D : Addr} {l : List (Addr × Obj)} {a0 a1 a2 a3 a4 : Prop} (h : a0 ∧ a1 ∧ a2 ∧ a3 ∧ a4 ∧ AllLt D l) : ∀ p ∈ l, p.1 ≠ D := al0 h.2.2.2.2.2
theorem al6 {D : Addr} {l : List (Addr × Obj)} {a0 a1 a2 a3 a4 a5 : Prop} (h : a0 ∧ a1 ∧ a2 ∧ a3 ∧ a4 ∧ a5 ∧ AllLt D l) : ∀ p ∈ l, p.1 ≠ D := al0 h.2.2.2.2.2.2
theorem al7 {D : Addr} {l : List (Addr × Obj)} {a0 a1 a2 a3 a4 a5 a6 : Prop} (h : a0 ∧ a1 ∧ a2 ∧ a3 ∧ a4 ∧ a5 ∧ a6 ∧ AllLt D l) : ∀ p ∈ l, p.1 ≠ D := al0 h.2.2.2.2.2.2.2
theorem al8 {D : Addr} {l : List (Addr × Obj)} {a0 a1 a2 a3 a4 a5 a6 a7 : Prop} (h : a0 ∧ a1 ∧ a2 ∧ a3 ∧ a4 ∧ a5 ∧ a6 ∧ a7 ∧ AllLt D l) : ∀ p ∈ l, p.1 ≠ D := al0 h.2.2.2.2.2.2.2.2
theorem al9 {D : Addr} {l : List (Addr × Obj)} {a0 a1 a2 a3 a4 a5 a6 a7 a8 : Prop} (h : a0 ∧ a1 ∧ a2 ∧ a3 ∧ a4 ∧ a5 ∧ a6 ∧ a7 ∧ a8 ∧ AllLt D l) : ∀ p ∈ l, p.1 ≠ D := al0 h.2.2.2.2.2.2.2.2.2
theorem al10 {D : Addr} {l : List (Addr × Obj)} {a0 a1 a2 a3 a4 a5 a6 a7 a8 a9 : Prop} (h : a0 ∧ a1 ∧ a2 ∧ a3 ∧ a4 ∧ a5 ∧ a6 ∧ a7 ∧ a8 ∧ a9 ∧ AllLt D l) : ∀ p ∈ l, p.1 ≠ D := al0 h.2.2.2.2.2.2.2.2.2.2
theorem al11 {D : Addr} {l : List (Addr × Obj)} {a0 a1 a2 a3 a4 a5 a6 a7 a8 a9 a10 : Prop} (h : a0 ∧ a1 ∧ a2 ∧ a3 ∧ a4 ∧ a5 ∧ a6 ∧ a7 ∧ a8 ∧ a9 ∧ a10 ∧ AllLt D l) : ∀ p ∈ l, p.1 ≠ D := al0 h.2.2.2.2.2.2.2.2.2.2.2
theorem al12 {D : Addr} {l : List (Addr × Obj)} {a0 a1 a2 a3 a4 a5 a6 a7 a8 a9 a10 a11 : Prop} (h : a0 ∧ a1 ∧ a2 ∧ a3 ∧ a4 ∧ a5 ∧ a6 ∧ a7 ∧ a8 ∧ a9 ∧ a10 ∧ a11 ∧ AllLt D l) : ∀ p ∈ l, p.1 ≠ D := al0 h.2.2.2.2.2.2.2.2.2.2.2.2
theorem al13 {D : Addr} {l : List (Addr × Obj)} {a0 a1 a2 a3 a4 a5 a6 a7 a8 a9 a10 a11 a12 : Prop} (h : a0 ∧ a1 ∧ a2 ∧ a3 ∧ a4 ∧ a5 ∧ a6 ∧ a7 ∧ a8 ∧ a9 ∧ a10 ∧ a11 ∧ a12 ∧ AllLt D l) : ∀ p ∈ l, p.1 ≠ D := al0 h.2.2.2.2.2.2.2.2.2.2.2.2.2
theorem al14 {D : Addr} {l : List (Addr × Obj)} {a0 a1 a2 a3 a4 a5 a6 a7 a8 a9 a10 a11 a12 a13 : Prop} (h : a0 ∧ a1 ∧ a2 ∧ a3 ∧ a4 ∧ a5 ∧ a6 ∧ a7 ∧ a8 ∧ a9 ∧ a10 ∧ a11 ∧ a12 ∧ a13 ∧ AllLt D l) : ∀ p ∈ l, p.1 ≠ D := al0 h.2.2.2.2.2.2.2.2.2.2.2.2.2.2
theorem al15 {D : Addr} {l : List (Addr × Obj)} {a0 a1 a2 a3 a4 a5 a6 a7 a8 a9 a10 a11 a12 a13 a14 : Prop} (h : a0 ∧ a1 ∧ a2 ∧ a3 ∧ a4 ∧ a5 ∧ a6 ∧ a7 ∧ a8 ∧ a9 ∧ a10 ∧ a11 ∧ a12 ∧ a13 ∧ a14 ∧ AllLt D l) : ∀ p ∈ l, p.1 ≠ D := al0 h.2.2.2.2.2.2.2.2.2.2.2.2.2.2.2
end Mine

end
/-! part S1 -/
section
open PySem PySem.W PyProof.Rows PySem.Calls PySem.Spec
namespace Mine
noncomputable abbrev loose0 : List Str := [Str.ofString "tspecials", Str.ofString "_name_disallowed_re", Str.ofString "_value_disallowed_re", Str.ofString "_formatparam"]
noncomputable abbrev looseG : List Str := looseW Mine.hd.view_39 loose0 ++ (recsOf Mine.hd.view_39).map (·.name) ++ (litsOf Mine.hd.view_39).map (·.1) ++ (clssOf Mine.hd.view_39 (looseW Mine.hd.view_39 loose0)).map (·.name)
set_option maxRecDepth 100000 in
set_option maxHeartbeats 8000000 in
theorem sub_claim (w : World) (mean : ExcName → Option Value) (mg mb : Str → Option Value) :
   CbC 45 0 (∀ (news : List (Addr × Obj)) (a : Str) (ta : Tok) (b : Str) (tb : Tok), CbClaim PySem.Challenge.rw_pe0249_01.row.prog w (Mine.hd.heap_39 w.params) topProg looseG mean mg mb 45 news [] (a.length ≤ 64 ∧ b.length ≤ 64) [.str a ta, .str b tb] (fun t => .int (subF a b) t)) := by
  k_with_none
  w_top off
  k_fill
  unfold CbC
  intro news a ta b tb
  dsimp only [CbClaim, CbLists, CbRet]; intros; rename_i hlab _ _ hret
  obtain ⟨hla, hlb⟩ := hlab
  refine wpAny_call ?_
  k_dflt cell_enter
  k_steps
  all_goals (refine cb_retI hret ?_ (by assumption) (by assumption); (try simp only [beq_iff_eq, beq_eq_false_iff_ne, ne_eq] at *); simp_all [subF])
end Mine

end
/-! part L2 -/
section
open PySem PySem.W PyProof.Rows PySem.Calls PySem.Spec
namespace Mine
local macro_rules | `(tactic| k_all) => `(tactic| first | assumption | exact OwnOff.ne (by assumption) (List.Mem.head _) | (refine all_app ?_ ?_ <;> k_all))
noncomputable def fnBody (n : Nat) : List Stmt := match (PySem.Challenge.pw_pe0249_01.main.body)[n]? with
  | some (.FunctionDef _ _ b _ _ _ _ _ _ _) => b
  | _ => []
noncomputable def fnScope (n : Nat) : Scope := match (PySem.Challenge.pw_pe0249_01.main.body)[n]? with
  | some (.FunctionDef _ _ _ _ _ _ s _ _ _) => s
  | _ => PySem.Challenge.pw_pe0249_01.main.scope
noncomputable def stAt (n k : Nat) : Stmt := (fnBody n).getD k (.Pass ⟨0, 0, 0, 0⟩)
noncomputable abbrev levEnv (L : Addr) : Env := envOf (Str.ofString "_levenshtein_distance") (fnScope 7) L 52 (Value.ref 51)
noncomputable def LevEnd (g' : Heap) (L' : Addr) (news : List (Addr × Obj)) (s : Shared) (d : Int) (f : Flow) (s₂ : Shared) : Prop :=
  ∃ h tk t m', s₂ = { s with heap := h, toks := tk } ∧ News g' L' h news ∧ ((f = .ret (.int d t) ∧ Fr g' L' h m') ∨ (f = .next ∧ Fr g' L' h (fun y => if y = Str.ofString "result" then some (.int d t) else m' y)))
set_option maxRecDepth 100000 in
set_option maxHeartbeats 8000000 in
theorem lev_for (w : World) (mean : ExcName → Option Value) (mg mb : Str → Option Value) (dp un : Nat) (gd : Option (List Code)) (cn : Str) (csc : Scope) (L a : Addr) (ccd : Value) (cl : List (Str × Addr)) (outer : List Env) (base g' : Heap) (L' D : Addr) (h9 : Heap) (tk9 : Nat) (s : Shared) (E : Value → Shared → Prop)
    (m : Str → Option Value) (vs : List Value) (nn : Nat) (news : List (Addr × Obj)) (A3 B3 : Str) (c : Int) (tA tB tc tr : Tok)
    (B' : Below (ktrTop dp un gd cn csc L a ccd cl outer) base (envX cn csc L a ccd cl :: outer) g') (X' : (Mine.hd.heap_39 w.params).In g') (T' : Top topProg looseG mean mg mb g')
    (hdp2 : dp + 2 < recursionLimit) (hun2 : un + 16 < cLine)
    (F' : Fr g' L' h9 (fun y => if y = Str.ofString "result" then some (.int 0 tr) else if y = Str.ofString "row" then some (.ref D) else if y = Str.ofString "b" then some (.str B3 tB) else if y = Str.ofString "a" then some (.str A3 tA) else if y = Str.ofString "max_cost" then some (.int c tc) else m y))
    (N' : News g' L' h9 ((D, listOf (List.toArray vs) nn) :: news)) (hI : IntsAre vs (row0 A3.length)) (lA : A3.length ≤ 40) (lB : B3.length ≤ 40) (hfar : ¬ ((B3.length : Int) - A3.length) * 2 > c)
    (hD : ∀ p ∈ news, p.1 ≠ D) (okA : ∀ x ∈ cs A3, x ∈ alpha) (okB : ∀ x ∈ cs B3, x ∈ alpha) :
    wpAny (model PySem.Challenge.rw_pe0249_01.row.prog w) ((ktrTop dp un gd cn csc L a ccd cl outer).deeper (levEnv L')) (exec (stAt 7 15) (levEnv L'))
      (LevEnd g' L' news s (dpL (cs A3) (cs B3) c)) (fun e s' => wpAny (model PySem.Challenge.rw_pe0249_01.row.prog w) ((ktrTop dp un gd cn csc L a ccd cl outer).deeper (levEnv L')) (leaving (levEnv L') e) (fun _ s'' => E e s'') (fun e' s'' => E e' s'') s') { s with heap := h9, toks := tk9 } := by
  have : Mine.hd.heap_39 w.params = Mine.hd.heap_39 w.params ∧ PySem.Challenge.rw_pe0249_01 = PySem.Challenge.rw_pe0249_01 := by
    k_fill
    exact ⟨rfl, rfl⟩
  clear this
  k_with_none
  w_top off
  have hCs := sub_claim w mean mg mb
  dsimp only [levEnv]
  with_unfolding_all show wpAny _ _ (exec (Stmt.For _ _ _ _ _) _) _ _ _
  have hsc : fnScope 7 = fnScope 7 := rfl
  conv at hsc => rhs; whnf
  rw [hsc]
  clear hsc
  k_with "state" => (first | exact ⟨PO_start _ _ _, row0_len _⟩ | exact ⟨PI_start _ _ _ _, by assumption⟩ | exact ⟨PI_lt (by assumption) (by assumption) (by omega) (item_alpha (by omega) (by omega) okB) okA rfl (by assumption), by simp only [List.length_set]; assumption⟩ | exact ⟨PI_ge (by assumption) (by assumption) (by omega) (item_alpha (by omega) (by omega) okB) okA rfl (by assumption), by simp only [List.length_set]; assumption⟩ | exact ⟨PO_on (by assumption) (by assumption) (by rw [rangeKs_length]; omega) (by assumption) (by omega) (by assumption), by assumption⟩)
  (try k_fold)
  repeat' (first | (k_unfold; (try dsimp only)) | ((fail_if_success (with_reducible show wpAny _ _ (pyIter _) _ _ _)); walk1) | ((fail_if_success (with_reducible show wpAny _ _ (pyIter _) _ _ _)); dsimp only; walk1))
  k_state (fun pre result row => PO A3 B3 c pre.length result row ∧ row.length = A3.length) "result" "row"
  · k_with "call ref" => k_call_by "_substitution_cost" subF
    repeat' (first | (k_unfold; (try dsimp only)) | ((fail_if_success (with_reducible show wpAny _ _ (pyIter _) _ _ _)); walk1) | ((fail_if_success (with_reducible show wpAny _ _ (pyIter _) _ _ _)); dsimp only; walk1))
    k_state_given ["row!", "bindex", "bchar"] (fun row9 bi bch pre distance result minimum row => PI bch A3 row9 bi pre.length distance result minimum row ∧ row.length = A3.length) "distance" "result" "minimum" "row"
    · repeat' (first | (k_unfold; (try dsimp only)) | walk1 | (dsimp only; walk1))
    · repeat' (first | (k_unfold; (try dsimp only)) | walk1 | (dsimp only; walk1))
      have e9 := PO_off (by assumption) (by assumption) (by rw [rangeKs_length]; omega) (by assumption) (by omega) (by assumption) hfar
      (rename News _ _ _ _ => lN')
      exact ⟨_, _, _, _, rfl, fun p hp => lN' p (by simp [hp]), .inl ⟨by rw [e9], by assumption⟩⟩
  · have e9 := PO_end (by assumption) (by rw [rangeKs_length]; omega) hfar
    (rename News _ _ _ _ => lN')
    rw [← e9]
    exact ⟨_, _, _, _, rfl, fun p hp => lN' p (by simp [hp]), .inr ⟨rfl, fr_re (by assumption) (by with_unfolding_all rfl)⟩⟩
end Mine

end
/-! part L1 -/
section
open PySem PySem.W PyProof.Rows PySem.Calls PySem.Spec
namespace Mine
local macro_rules | `(tactic| walk_at "mine:go") => `(tactic| repeat' (first | (k_unfold; (try dsimp only)) | (k_end; wrow_close) | ((fail_if_success (with_reducible show wpAny _ _ (exec (Stmt.While _ _ _ _) _) _ _ _)); (fail_if_success (with_reducible show wpAny _ _ (exec (Stmt.For _ _ _ _ _) _) _ _ _)); (first | walk1 | (dsimp only; walk1) | (leave1; walk_say "STEP leave1"; try dsimp only))) | fail "no step"))
local macro_rules | `(tactic| walk_at "subscriptTail Name Slice str ref") => `(tactic| ((with_reducible show wpAny _ _ (subscriptTail _ (Expr.Slice none (some _) none _) _ _) _ _ _); (with_reducible rename Fr _ _ _ _ => F'); (with_reducible rename News _ _ _ _ => N'); (refine sl_nn (hsz := ?hsz) (s := ⟨_, _, _, _, _⟩) F' N' ?_); (case hsz => size_fits); intro _ _ _ _ _))
local macro_rules | `(tactic| walk_at "subscriptTail Name Slice str ref") => `(tactic| ((with_reducible show wpAny _ _ (subscriptTail _ (Expr.Slice none (some _) none _) _ _) _ _ _); (with_reducible rename Fr _ _ _ _ => F'); (with_reducible rename News _ _ _ _ => N'); (refine sl_neg (hsz := ?hsz) (s := ⟨_, _, _, _, _⟩) F' N' (by omega) (by omega) ?_); (case hsz => size_fits); intro _ _ _ _ _ _))
local macro_rules | `(tactic| walk_at "mine:stop") => `(tactic| repeat' (first | (k_unfold; (try dsimp only)) | (k_end; wrow_close) | ((fail_if_success (with_reducible show wpAny _ _ (exec (Stmt.If _ _ _ _) _) _ _ _)); (fail_if_success (with_reducible show wpAny _ _ (exec (Stmt.For _ _ _ _ _) _) _ _ _)); (first | walk1 | (dsimp only; walk1) | (leave1; walk_say "STEP leave1"; try dsimp only))) | fail "no step"))
local macro_rules | `(tactic| walk_at "call type:list") => `(tactic| (k_here; (with_reducible show wpAny _ _ (call (Value.type _) [Value.ref _]) _ _ _); (rename IsRange _ _ _ _ _ _ _ _ => rgX); (with_unfolding_all refine' r2_list ?k0 ?k1 ?k2 ?k3 ?k6 ?_; (case k0 => rfl); (case k1 => k_asm); (case k2 => k_asm); (case k3 => exact rgX); (case k6 => omega); k_whole); intro D' vs' c' h' tk' F' N' l1 hI'; (try k_lt l1); (try k_sweep)))
set_option maxRecDepth 100000 in
set_option maxHeartbeats 8000000 in
theorem lev_call (w : World) {mean : ExcName → Option Value} {mg mb : Str → Option Value} {dp un : Nat} {gd : Option (List Code)} {cn : Str} {csc : Scope} {aa : Addr} {ccd : Value} {cl : List (Str × Addr)} {outer : List Env} {A₀ : Around} {base h₀ : Heap} {L : Addr} {m : Str → Option Value} {s : Shared} {Q E : Value → Shared → Prop}
    {news : List (Addr × Obj)} {a b : Str} {ta tb : Tok} {c : Int} {tc : Tok}
    (B₀ : Below A₀ base outer h₀) (F₀ : Fr h₀ L s.heap m) (X₀ : (Mine.hd.heap_39 w.params).In h₀) (N₀ : News h₀ L s.heap news) (T₀ : Top topProg looseG mean mg mb h₀) (hkind : csc.kind = ScopeKind.function)
    (hla : a.length ≤ 40) (hlb : b.length ≤ 40) (hoka : okL (cs a) = true) (hokb : okL (cs b) = true) (hdp : dp + 2 < recursionLimit) (hun : un + 16 < cLine)
    (hret : ∀ (t : Tok) (h' : Heap) (tk' : Nat), Fr h₀ L h' m → News h₀ L h' news → Q (.int (levF a b c) t) { s with heap := h', toks := tk' }) :
    wpAny (model PySem.Challenge.rw_pe0249_01.row.prog w) (ktrTop dp un gd cn csc L aa ccd cl outer) (call (.ref 52) [.str a ta, .str b tb, .int c tc]) Q E s := by
  have : Mine.hd.heap_39 w.params = Mine.hd.heap_39 w.params ∧ PySem.Challenge.rw_pe0249_01 = PySem.Challenge.rw_pe0249_01 := by
    k_fill
    exact ⟨rfl, rfl⟩
  clear this
  k_with_none
  w_top off
  refine wpAny_call ?_
  k_dflt cell_enter
  walk_at "mine:go"
  · exact cb_retI hret (lev_same (by assumption)).symm (by assumption) (by assumption)
  · (rename Fr _ _ _ _ => lF')
    (rename (a == b) = false => hne)
    refine cut_next (σ := Int × Tok) (fun _ => news) (fun c => [(Str.ofString "pre", Value.int c.1 c.2)]) (fun c => c.1 = cpl (cs a) (cs b)) lF' ?_ ?_
    · k_with "state" => (first | exact ⟨by omega, by omega, by omega, W1_start _ _⟩ | exact ⟨by omega, by omega, by omega, W1_turn (by assumption) (by omega) (by omega) (by assumption)⟩)
      k_while (fun _ pre => 0 ≤ pre ∧ pre ≤ a.length ∧ pre ≤ b.length ∧ W1 a b pre) (fun _ pre => 40 - pre.toNat) "pre"
      walk_at "mine:go"
      all_goals (refine cut_in (_, _) (by assumption) (by assumption) (by intro p hp; exact hp) (by intro z; rfl) ?_; dsimp only; first | exact W1_endA (by assumption) (by omega) | exact W1_endB (by assumption) (by omega) | exact W1_endC (by assumption) (by omega) (by omega) (by assumption))
    · clear lF'
      rintro ⟨p, tp⟩ h1 k1 hp F1 N1
      dsimp only [kstB] at hp F1 N1
      have hp0 : 0 ≤ p := by omega
      have hpa : p ≤ a.length := by have := cpl_le_left (cs a) (cs b); rw [cs_len] at this; omega
      have hpb : p ≤ b.length := by have := cpl_le_right (cs a) (cs b); rw [cs_len] at this; omega
      (try k_fold)
      walk_at "mine:go"
      have eA := slice_from hp0 hpa
      have eB := slice_from hp0 hpb
      generalize hA : Txt.slice a (some p) none = A at *
      generalize hB : Txt.slice b (some p) none = B at *
      (rename Fr _ _ _ _ => lF')
      refine cut_next (σ := Int × Tok) (fun _ => news) (fun c => [(Str.ofString "post", Value.int c.1 c.2)]) (fun c => -c.1 = cpl (cs A).reverse (cs B).reverse) lF' ?_ ?_
      · k_with "state" => (first | exact ⟨by omega, by omega, by omega, W2_start _ _⟩ | exact ⟨by omega, by omega, by omega, W2_turn (by assumption) (by omega) (by omega) (by assumption)⟩)
        k_while (fun _ q => q ≤ 0 ∧ -q ≤ A.length ∧ -q ≤ B.length ∧ W2 A B q) (fun _ q => 40 - (-q).toNat) "post"
        walk_at "mine:go"
        all_goals (refine cut_in (_, _) (by assumption) (by assumption) (by intro p hp; exact hp) (by intro z; rfl) ?_; dsimp only; first | exact W2_endA (by assumption) (by omega) | exact W2_endB (by assumption) (by omega) | exact W2_endC (by assumption) (by omega) (by omega) (by assumption))
      · clear lF'
        rintro ⟨q, tq⟩ h2 k2 hq F2 N2
        dsimp only [kstB] at hq F2 N2
        have hq0 : q ≤ 0 := by omega
        have hqa : -q ≤ A.length := by have := cpl_le_left (cs A).reverse (cs B).reverse; rw [List.length_reverse, cs_len] at this; omega
        have hqb : -q ≤ B.length := by have := cpl_le_right (cs A).reverse (cs B).reverse; rw [List.length_reverse, cs_len] at this; omega
        (try k_fold)
        walk1
        (rename Fr _ _ _ _ => lF')
        refine cut_next (σ := Str × Tok) (fun _ => news) (fun c => [(Str.ofString "a", Value.str c.1 c.2)]) (fun c => c.1 = mkS ((cs A).take (q + A.length).toNat)) lF' ?_ ?_
        · walk_at "mine:go"
          · refine cut_in (_, _) (by assumption) (by assumption) (by intro p hp; exact hp) (by intro z; rfl) ?_; dsimp only
          · refine cut_in (_, _) (by assumption) (by assumption) (by intro p hp; exact hp) (by intro z; rfl) ?_; dsimp only; exact take_all (by omega)
        clear lF'
        rintro ⟨A2, tA2⟩ h3 k3 hA2 F3 N3
        dsimp only [kstB] at hA2 F3 N3
        (try k_fold)
        walk1
        (rename Fr _ _ _ _ => lF')
        refine cut_next (σ := Str × Tok) (fun _ => news) (fun c => [(Str.ofString "b", Value.str c.1 c.2)]) (fun c => c.1 = mkS ((cs B).take (q + B.length).toNat)) lF' ?_ ?_
        · walk_at "mine:go"
          · refine cut_in (_, _) (by assumption) (by assumption) (by intro p hp; exact hp) (by intro z; rfl) ?_; dsimp only
          · refine cut_in (_, _) (by assumption) (by assumption) (by intro p hp; exact hp) (by intro z; rfl) ?_; dsimp only; exact take_all (by omega)
        clear lF'
        rintro ⟨B2, tB2⟩ h4 k4 hB2 F4 N4
        dsimp only [kstB] at hB2 F4 N4
        have lA2 : A2.length ≤ 40 := by rw [hA2, mkS_len, List.length_take, cs_len]; omega
        have lB2 : B2.length ≤ 40 := by rw [hB2, mkS_len, List.length_take, cs_len]; omega
        have hmid : levF a b c = midL (cs A2) (cs B2) c := lev_mid hne hp eA eB hq hqa hqb hA2 hB2
        have okA : ∀ x ∈ cs A2, x ∈ alpha := ok_sub (ok_all hoka) (by rw [hA2, eA]; exact fun x hx => List.mem_of_mem_drop (List.mem_of_mem_take hx))
        have okB : ∀ x ∈ cs B2, x ∈ alpha := ok_sub (ok_all hokb) (by rw [hB2, eB]; exact fun x hx => List.mem_of_mem_drop (List.mem_of_mem_take hx))
        rw [hmid] at hret
        clear hq hqa hqb hA2 hB2 eA eB hmid hp hpa hpb hA hB hne hoka hokb hq0 hp0
        (try k_fold)
        walk_at "mine:stop"
        (rename Fr _ _ _ _ => lF')
        refine cut_next (σ := Unit) (fun _ => news) (fun c => []) (fun c => A2.length ≠ 0 ∧ B2.length ≠ 0) lF' ?_ ?_
        · walk_at "mine:go"
          · exact cut_in () (by assumption) (by assumption) (by intro p hp; exact hp) (by intro z; rfl) ⟨by omega, by omega⟩
          all_goals (dsimp only [CutPost]; walk_at "mine:go")
          · exact cb_retI hret (mid_emptyB (by omega)) (by assumption) (by assumption)
          · exact cb_retI hret (mid_emptyA (by omega)) (by assumption) (by assumption)
        clear lF'
        rintro _ h5 k5 ⟨nA2, nB2⟩ F5 N5
        dsimp only [kstB] at F5 N5
        (try k_fold)
        walk1
        (rename Fr _ _ _ _ => lF')
        refine cut_next (σ := Unit) (fun _ => news) (fun c => []) (fun c => True) lF' ?_ ?_
        · walk_at "mine:go"
          exact cut_in () (by assumption) (by assumption) (by intro p hp; exact hp) (by intro z; rfl) trivial
        clear lF'
        rintro _ h6 k6 _ F6 N6
        dsimp only [kstB] at F6 N6
        (try k_fold)
        walk1
        (rename Fr _ _ _ _ => lF')
        refine cut_next (σ := (Str × Tok) × (Str × Tok)) (fun _ => news) (fun c => [(Str.ofString "a", Value.str c.1.1 c.1.2), (Str.ofString "b", Value.str c.2.1 c.2.2)]) (fun c => (c.1.1, c.2.1) = if B2.length < A2.length then (B2, A2) else (A2, B2)) lF' ?_ ?_
        · walk_at "mine:go"
          · refine cut_in ((_, _), (_, _)) (by assumption) (by assumption) (fun p hp => List.Mem.tail _ hp) (by intro z; rfl) ?_
            dsimp only
            exact swap_pos (by omega)
          · refine cut_in ((_, _), (_, _)) (by assumption) (by assumption) (fun p hp => hp) (kst_same2 (by with_unfolding_all rfl) (by with_unfolding_all rfl)) ?_
            dsimp only
            exact swap_neg (by omega)
        clear lF'
        rintro ⟨⟨A3, tA3⟩, ⟨B3, tB3⟩⟩ h7 k7 hAB F7 N7
        dsimp only [kstB] at hAB F7 N7
        rw [mid_swap nA2 nB2 hAB] at hret
        obtain ⟨lA3, lB3, oA3, oB3⟩ : A3.length ≤ 40 ∧ B3.length ≤ 40 ∧ (∀ x ∈ cs A3, x ∈ alpha) ∧ (∀ x ∈ cs B3, x ∈ alpha) := by
          rcases swap_le hAB with ⟨rfl, rfl⟩ | ⟨rfl, rfl⟩
          · exact ⟨lB2, lA2, okB, okA⟩
          · exact ⟨lA2, lB2, okA, okB⟩
        clear hAB lA2 lB2 okA okB nA2 nB2
        (try k_fold)
        walk_at "mine:go"
        · exact cb_retI hret (dp_far (by assumption)) (by assumption) (by assumption)
        (rename Fr _ _ _ _ => lF')
        (rename News _ _ _ _ => lN')
        (rename IntsAre _ _ => lI')
        refine wpAny_mono (lev_for w mean mg mb _ _ _ _ _ _ _ _ _ _ _ _ _ _ _ _ _ _ _ _ _ _ A3 B3 c _ _ _ _ (by assumption) (by assumption) (by assumption) (by omega) (by omega) (fr_re (fr_re (fr_re (fr_re (fr_re lF' (x := Str.ofString "max_cost") (by with_unfolding_all rfl)) (x := Str.ofString "a") (by with_unfolding_all rfl)) (x := Str.ofString "b") (by with_unfolding_all rfl)) (x := Str.ofString "row") (by with_unfolding_all rfl)) (x := Str.ofString "result") (by with_unfolding_all rfl)) lN' lI' lA3 lB3 (by assumption) ?_ oA3 oB3) (fun f s₂ q => ?_) (fun _ _ x => x)
        · (rename (∀ p ∈ news, p.1 < _) => hlt9)
          exact fun p hp => Nat.ne_of_lt (hlt9 p hp)
        · clear lF' lN' lI'
          obtain ⟨h9, k9, t9, m9, rfl, N9, ⟨rfl, F9⟩ | ⟨rfl, F9⟩⟩ := q
          · dsimp only
            walk_at "mine:go"
            exact cb_retI hret rfl (by assumption) (by assumption)
          · dsimp only
            (try k_fold)
            walk_at "mine:go"
            exact cb_retI hret rfl (by assumption) (by assumption)
end Mine

end
/-! part For1 -/
section
open PySem PySem.W PyProof.Rows PySem.Calls PySem.Spec
namespace Mine
/-- a for over an empty list of the ledger, whatever its target -/
theorem for_empty {prog : Program} {w : World} {A : Around} {E : Value → Shared → Prop} {s : Shared} {env : Env} {h₀ : Heap} {L l : Addr} {n : Nat} {m : Str → Option Value} {news : List (Addr × Obj)} {Q : Flow → Shared → Prop} {target iter : PySem.Expr} {body : List Stmt} {pos : Pos}
    (hh : A.handled = none) (F : Fr h₀ L s.heap m) (N : News h₀ L s.heap news) (hm : (l, listOf #[] n) ∈ news)
    (hi : ∀ Q', Q' (.ref l) s → wpAny (model prog w) A (eval iter env) Q' E s)
    (h : ∀ h', Fr h₀ L h' m → News h₀ L h' news → Q .next { s with heap := h' })
    (hs : ∀ x, foldedSetIterable iter env x = pure x := by intro _; rfl) :
    wpAny (model prog w) A (exec (.For target iter body [] pos) env) Q E s := by
  refine wpAny_For (hi _ ?_) hs
  have hl : s.heap.IsList l #[] := PySem.IsL.isList (n := n) (N _ hm).1
  refine wpAny_pyIter_list hl ?_
  refine codeAny_forLoop_any (fun k s' => k = 0 ∧ s' = { s with heap := s.heap.push { cls := .type "list_iterator", data := .fields #[.ref l, .int 0 0] } }) ?_ 0 ⟨rfl, rfl⟩
  rintro k s' ⟨rfl, rfl⟩
  refine wpAny_pyNext_list_end hh ⟨_, Heap.get?_push_size _ rfl, rfl, rfl⟩ (hl.push _) rfl fun h' hx => ?_
  have keep : ∀ b o, s.heap.get? b = some o → h'.get? b = some o := fun b o e => hx b o (Nat.ne_of_lt (Heap.lt_size e)) (Heap.get?_push_of_some _ e)
  exact wpAny_execs_nil (h h' (F.keeps keep) (fun p hp => ⟨keep _ _ (N p hp).1, (N p hp).2⟩))
end Mine

end
/-! part Tok1 -/
section
open PySem PySem.W PyProof.Rows PySem.Calls PySem.Spec
namespace Mine
theorem setGen_toks (s : Shared) (g : Nat) (x : GenState) : (s.setGen g x).toks = s.toks := rfl
theorem runs_toks {M : Model} {Γ : PySem.Ctx} {p : Pos} {t : Sem Fin} {fs : List Frame} {s : Shared} {e : End} {s' : Shared} (h : Runs M Γ p t fs s e s') : s.toks ≤ s'.toks := by
  induction h <;> (try simp only [setGen_toks] at *) <;> (try dsimp only at *) <;> omega
theorem wakes_toks {M : Model} {Γ : PySem.Ctx} {p : Pos} {g : Nat} {r : Resume} {s : Shared} {res : GenResult} {s' : Shared} (h : Wakes M Γ p g r s res s') : s.toks ≤ s'.toks := by
  unfold Wakes at h
  split at h
  · cases h
  · split at h
    · obtain ⟨e₁, s₁, hr, _, _, rfl⟩ := h
      have := runs_toks hr
      simpa [setGen_toks] using this
    · obtain ⟨_, rfl⟩ := h; exact Nat.le_refl _
    · obtain ⟨_, rfl⟩ := h; exact Nat.le_refl _
  · obtain ⟨e₁, s₁, hr, _, _, rfl⟩ := h
    have := runs_toks hr
    simpa [setGen_toks] using this
  · obtain ⟨_, rfl⟩ := h; exact Nat.le_refl _
  · obtain ⟨_, rfl⟩ := h; exact Nat.le_refl _
theorem wp_toks {α : Type} (M : Model) (Γ : PySem.Ctx) (n : Nat) : ∀ (t : Sem α) (Q : α → Pos → Shared → Prop) (E : Value → Pos → Shared → Prop) (p : Pos) (s : Shared), n ≤ s.toks →
    Sem.wp M Γ t (fun a p' s' => n ≤ s'.toks → Q a p' s') (fun e p' s' => n ≤ s'.toks → E e p' s') p s → Sem.wp M Γ t Q E p s := by
  intro t
  induction t with
  | pure a => intro Q E p s hn h; simp only [Sem.wp] at h ⊢; exact h hn
  | raise e => intro Q E p s hn h; simp only [Sem.wp] at h ⊢; exact h hn
  | unsupported w => intro Q E p s hn h; simp only [Sem.wp] at h
  | finish e => intro Q E p s hn h; simp only [Sem.wp] at h
  | rule tag k ih => intro Q E p s hn h; simp only [Sem.wp] at h ⊢; exact ih _ _ _ _ _ hn h
  | «at» q k ih => intro Q E p s hn h; simp only [Sem.wp] at h ⊢; exact ih _ _ _ _ _ hn h
  | load a part k ih => intro Q E p s hn h; simp only [Sem.wp] at h ⊢; obtain ⟨o, ho, h⟩ := h; exact ⟨o, ho, ih _ _ _ _ _ hn h⟩
  | update a part f k ih => intro Q E p s hn h; simp only [Sem.wp] at h ⊢; exact ⟨h.1, ih _ _ _ _ _ hn h.2⟩
  | alloc o k ih => intro Q E p s hn h; simp only [Sem.wp] at h ⊢; exact ih _ _ _ _ _ hn h
  | loadIfAlive a k ih => intro Q E p s hn h; simp only [Sem.wp] at h ⊢; exact ih _ _ _ _ _ hn h
  | point l k ih => intro Q E p s hn h; simp only [Sem.wp] at h ⊢; exact ih _ _ _ _ _ hn h
  | register a k ih => intro Q E p s hn h; simp only [Sem.wp] at h
  | fresh k ih => intro Q E p s hn h; simp only [Sem.wp] at h ⊢; exact ih _ _ _ _ _ (Nat.le_succ_of_le hn) h
  | ask k ih => intro Q E p s hn h; simp only [Sem.wp] at h ⊢; exact ih _ _ _ _ _ hn h
  | choose src m k ih => intro Q E p s hn h; simp only [Sem.wp] at h ⊢; exact ⟨h.1, ih _ _ _ _ _ hn h.2⟩
  | os q l k ih => intro Q E p s hn h; simp only [Sem.wp] at h ⊢; exact ih _ _ _ _ _ hn h
  | call c hd g l k ih =>
    intro Q E p s hn h
    simp only [Sem.wp] at h ⊢
    obtain ⟨r, s', hr, h⟩ := h
    exact ⟨r, s', hr, ih _ _ _ _ _ (Nat.le_trans hn (runs_toks hr)) h⟩
  | handled own k ih => intro Q E p s hn h; simp only [Sem.wp] at h ⊢; exact ih _ _ _ _ _ hn h
  | newGen c k ih => intro Q E p s hn h; simp only [Sem.wp] at h ⊢; exact ih _ _ _ _ _ hn h
  | genState g k ih => intro Q E p s hn h; simp only [Sem.wp] at h ⊢; obtain ⟨o, ho, h⟩ := h; exact ⟨o, ho, ih _ _ _ _ _ hn h⟩
  | resume g r l k ih =>
    intro Q E p s hn h
    simp only [Sem.wp] at h ⊢
    obtain ⟨res, s', hw, h⟩ := h
    exact ⟨res, s', hw, ih _ _ _ _ _ (Nat.le_trans hn (wakes_toks hw)) h⟩
  | yield v g l k ih => intro Q E p s hn h; simp only [Sem.wp] at h
  | stack k ih => intro Q E p s hn h; simp only [Sem.wp] at h ⊢; exact ih _ _ _ _ _ hn h
  | fork c k ih => intro Q E p s hn h; simp only [Sem.wp] at h
  | thread k ih => intro Q E p s hn h; simp only [Sem.wp] at h ⊢; exact ih _ _ _ _ _ hn h
  | await a tk tm l k ih => intro Q E p s hn h; simp only [Sem.wp] at h
/-- the tokens' count never falls -/
theorem tok_up {α : Type} {M : Model} {A : Around} {t : Sem α} {Q : α → Shared → Prop} {E : Value → Shared → Prop} {s : Shared} (n : Nat) (hn : n ≤ s.toks)
    (h : wpAny M A t (fun a s' => n ≤ s'.toks → Q a s') (fun e s' => n ≤ s'.toks → E e s') s) : wpAny M A t Q E s :=
  fun Γ p hΓ => wp_toks M Γ n t _ _ p s hn (h Γ p hΓ)
end Mine

end
/-! part Kw1 -/
section
open PySem PySem.W PyProof.Rows PySem.Calls PySem.Spec PyProof.V
namespace Mine
/-- a turn's end of a loop over a dict's items: the ledger's places are the same, their things may have turned -/
noncomputable def KwEnd (h₀ : Heap) (L : Addr) (own news : List (Addr × Obj)) (J : (Str → Option Value) → List (Addr × Obj) → Prop) (s₁ : Shared) (f : Flow) (s₂ : Shared) : Prop :=
  f = .next ∧ ∃ (h' : Heap) (tk : Nat) (m₂ : Str → Option Value) (news₂ : List (Addr × Obj)), s₂ = { s₁ with heap := h', toks := tk } ∧ Fr h₀ L h' m₂ ∧ News h₀ L h' (own ++ news₂) ∧ news₂.map (·.1) = news.map (·.1) ∧ J m₂ news₂
section
variable {prog : Program} {w : World} {K : Type} [DecidableEq K] {knd : KeyKind prog w K} {A : Around} {s : Shared} {env : Env} {h₀ : Heap}
theorem kw_loop {R : Result → Shared → Prop} {xk xv : Str} {pk pv pt : Pos} {x1 : Nat} {body : List Stmt} {it d : Addr} {kvs : List (K × Value)} {ep : Nat} {m : Str → Option Value} {news : List (Addr × Obj)}
    (hh : A.handled = none) (hxk : env.kindOf xk = some .local) (hxv : env.kindOf xv = some .local)
    (hp : (env.scope.kind == .class || (env.scope.kind == .module && env.locals != env.globals)) = false)
    (hiL : it ≠ env.locals) (hdL : d ≠ env.locals) (hdi : d ≠ it) (hin : h₀.get? it = none) (hnw : ∀ p ∈ news, p.1 ≠ it)
    (hit : IsItemIter s.heap it d 0 kvs.length ep .none .none) (hm : s.heap.DictAt knd d kvs ep) (F : Fr h₀ env.locals s.heap m) (N : News h₀ env.locals s.heap news)
    (J : Nat → (Str → Option Value) → List (Addr × Obj) → Prop) (h0 : J 0 m news)
    (step : ∀ i k v key m₁ news₁ h₁ tk₁ own, kvs[i]? = some (k, v) → knd.is k key = true → J i m₁ news₁ → (∀ p ∈ own, p.1 ∈ [it, d]) → news₁.map (·.1) = news.map (·.1) →
      Fr h₀ env.locals h₁ (fun y => if y = xv then some v else if y = xk then some key else m₁ y) → News h₀ env.locals h₁ (own ++ news₁) →
      wpAny (model prog w) A (execs body env) (KwEnd h₀ env.locals own news₁ (J (i + 1)) { s with heap := h₁, toks := tk₁ }) (notedBy (model prog w) A env fun e s' => R (.error e) s') { s with heap := h₁, toks := tk₁ })
    (hR : ∀ h' tk m' news', Fr h₀ env.locals h' m' → News h₀ env.locals h' news' → J kvs.length m' news' → R (.ok .next) { s with heap := h', toks := tk }) :
    codeAny (model prog w) A (.forLoop (.Tuple [.Name xk pk, .Name xv pv] x1 pt) (.ref it) body [] env) R s := by
  have hLf : env.locals ∉ [it, d] := by
    intro hx
    simp only [List.mem_cons, List.not_mem_nil, or_false] at hx
    rcases hx with e | e
    · exact hiL e.symm
    · exact hdL e.symm
  have away : ∀ news' : List (Addr × Obj), news'.map (·.1) = news.map (·.1) → ∀ p ∈ news', p.1 ≠ it := fun news' ha p hq e => by
    have h1 : p.1 ∈ news.map (·.1) := ha ▸ List.mem_map.mpr ⟨p, hq, rfl⟩
    obtain ⟨q, hq', e'⟩ := List.mem_map.mp h1
    exact hnw q hq' (e'.trans e)
  refine codeAny_forLoop_any
    (fun n s' => ∃ h' tk m' news' i ok ov, s' = { s with heap := h', toks := tk } ∧ IsItemIter h' it d i kvs.length ep ok ov ∧ h'.DictAt knd d kvs ep ∧ Fr h₀ env.locals h' m' ∧ News h₀ env.locals h' news' ∧ news'.map (·.1) = news.map (·.1) ∧ J i m' news' ∧ i ≤ kvs.length ∧
      n = kvs.length + 1 - i) ?_ (kvs.length + 1)
    ⟨s.heap, s.toks, m, news, 0, .none, .none, rfl, hit, hm, F, N, rfl, h0, Nat.zero_le _, rfl⟩
  rintro n s' ⟨H, tk, m', news', i, ok, ov, rfl, hit', hm', F', N', ha', hJ, hi, rfl⟩
  have oldNe : ∀ b o, h₀.get? b = some o → b ≠ it := fun b o e q => by rw [q, hin] at e; cases e
  have step1 : ∀ h₁ : Heap, (∀ b o, b ≠ it → H.get? b = some o → h₁.get? b = some o) → Fr h₀ env.locals h₁ m' ∧ News h₀ env.locals h₁ news' := fun h₁ up =>
    ⟨⟨F'.ns.at fun o x => up _ o (Ne.symm hiL) x, fun b o e => up b o (oldNe b o e) (F'.keep b o e), F'.above⟩, fun p hq => ⟨up _ _ (away news' ha' p hq) (N' p hq).1, (N' p hq).2⟩⟩
  cases hv : kvs[i]? with
  | none =>
    have hsz : i = kvs.length := Nat.le_antisymm hi (by simpa using hv)
    refine wpAny_pyNext_items_end hh hit' hm' hv fun h₁ he₁ => wpAny_execs_nil ?_
    obtain ⟨F₁, N₁⟩ := step1 h₁ he₁
    exact hR h₁ tk m' news' F₁ N₁ (hsz ▸ hJ)
  | some kv =>
    obtain ⟨k, v⟩ := kv
    have hlt : i < kvs.length := (List.getElem?_eq_some_iff.mp hv).1
    have hiH : it < H.objs.size := Heap.lt_size hit'
    have hdH : d < H.objs.size := hm'.lt_size
    refine wpAny_pyNext_items_item hit' hm' hv fun key h₁ hkey heo ht₁ hz₁ hk₁ => ?_
    refine wpAny_letOwnedTupleGo_items heo fun h₂ he₂ hs₂ => ?_
    replace hs₂ : Heap.SameBut it h₁ h₂ := hs₂
    have ht₂ : h₂.IsTuple H.objs.size #[key, v] := ⟨_, (hs₂.2 _ (Nat.ne_of_gt hiH)).trans ht₁, rfl, _, rfl⟩
    have hz₂ : h₂.objs.size = H.objs.size + 1 := hs₂.1.trans hz₁
    refine wpAny_assign_Tuple hh ht₂ rfl rfl fun h₃ hx₃ => ?_
    replace hx₃ : Heap.ExtBut h₂.objs.size h₂ h₃ := hx₃
    have old₃ : ∀ b o, b < H.objs.size → h₂.get? b = some o → h₃.get? b = some o := fun b o hb x => hx₃ b o (by rw [hz₂]; exact Nat.ne_of_lt (Nat.lt_succ_of_lt hb)) x
    have up₃ : ∀ b o, b ≠ it → H.get? b = some o → h₃.get? b = some o := fun b o hb x => old₃ b o (Heap.lt_size x) (hs₂.extBut b o hb (hk₁ b o hb x))
    obtain ⟨F₃, N₃⟩ := step1 h₃ up₃
    show wpAny _ _ (do holding [v] (assign (.Name xk pk) env key); do holding [] (assign (.Name xv pv) env v); pure ()) _ _ _
    refine wpAny_bind (wpAny_holding (wpAny_assign_Name (wpAny_storeName_local hxk F₃.ns (fun h₄ hn₄ hs₄ => ?_) hp)))
    replace hs₄ : Heap.SameBut env.locals h₃ h₄ := hs₄
    have F₄ := F₃.set hn₄ hs₄
    refine wpAny_bind (wpAny_holding (wpAny_assign_Name (wpAny_storeName_local hxv F₄.ns (fun h₅ hn₅ hs₅ => wpAny_pure ?_) hp)))
    replace hs₅ : Heap.SameBut env.locals h₄ h₅ := hs₅
    have F₅ := F₄.set hn₅ hs₅
    have N₅ : News h₀ env.locals h₅ news' := (N₃.set hs₄).set hs₅
    have up₅ : ∀ b o, b ≠ env.locals → b < H.objs.size → h₂.get? b = some o → h₅.get? b = some o := fun b o hbL hb x => hs₅.extBut b o hbL (hs₄.extBut b o hbL (old₃ b o hb x))
    have hm₂ : h₂.DictAt knd d kvs ep := (hm'.at fun o x => hk₁ d o hdi x).extBut hs₂.extBut hdi
    have hm₅ : h₅.DictAt knd d kvs ep := hm₂.at fun o x => up₅ d o hdL hdH x
    have hit₅ := up₅ it _ hiL hiH he₂
    refine wpAny_mono (step i k v key m' news' h₅ _ (ownOf h₀ [it, d] h₅) hv hkey hJ ownOf_sub ha' F₅ ((news_ownOf hLf).append N₅)) (fun f s₃ q => ?_) fun _ _ x => x
    obtain ⟨rfl, h₆, tk₆, m₂, news₂, rfl, F₆, N₆, ha₆, hJ₆⟩ := q
    have keep₆ : ∀ b ∈ [it, d], ∀ o, h₅.get? b = some o → h₆.get? b = some o := fun b hb o e => by
      cases hn : h₀.get? b with
      | some o₀ =>
        have q := F₅.keep b o₀ hn
        rw [e] at q
        rw [Option.some.inj q]
        exact F₆.keep b o₀ hn
      | none => exact (N₆ _ (List.mem_append_left _ (mem_ownOf hb hn e))).1
    exact ⟨kvs.length + 1 - (i + 1), by omega, h₆, tk₆, m₂, news₂, i + 1, key, v, rfl, keep₆ it (by simp) _ hit₅, hm₅.at fun o x => keep₆ d (by simp) o x, F₆, N₆.right, ha₆.trans ha', hJ₆, hlt, rfl⟩
end
end Mine

namespace Mine
theorem news_tail {h₀ h : Heap} {L : Addr} {q : Addr × Obj} {l : List (Addr × Obj)} (N : News h₀ L h (q :: l)) : News h₀ L h l := fun p hp => N p (.tail _ hp)
noncomputable def OwnAway (own news : List (Addr × Obj)) (d : Addr) : Prop := ∀ b ∈ news.map (·.1), b ≠ d → ∀ p ∈ own, p.1 ≠ b
theorem upd_app {d : Addr} {o o' : Obj} {r r' : List (Addr × Obj)} : ∀ {own : List (Addr × Obj)}, (∀ p ∈ own, p.1 ≠ d) → Upd d o o' r r' → Upd d o o' (own ++ r) (own ++ r')
  | [], _, u => u
  | q :: l, h, u => Upd.tail (h q (.head _)) (upd_app (fun p hp => h p (.tail _ hp)) u)
/-- a turn's end of a loop over a dict's one item: what the loop's end gives -/
noncomputable def KwOne (h₀ : Heap) (L : Addr) (own news : List (Addr × Obj)) (s : Shared) (Q : Flow → Shared → Prop) (f : Flow) (s₂ : Shared) : Prop :=
  f = .next ∧ ∃ (h' : Heap) (tk : Nat) (m₂ : Str → Option Value) (news₂ : List (Addr × Obj)), s₂ = { s with heap := h', toks := tk } ∧ Fr h₀ L h' m₂ ∧ News h₀ L h' (own ++ news₂) ∧ news₂.map (·.1) = news.map (·.1) ∧
    ∀ h'' tk'', Fr h₀ L h'' m₂ → News h₀ L h'' news₂ → Q .next { s with heap := h'', toks := tk'' }
theorem kw_end {h₀ : Heap} {L : Addr} {own news : List (Addr × Obj)} {s : Shared} {Q : Flow → Shared → Prop} {h' : Heap} {tk : Nat} {m₂ : Str → Option Value} {news₂ all : List (Addr × Obj)}
    (F : Fr h₀ L h' m₂) (N : News h₀ L h' all) (hs : ∀ p ∈ own ++ news₂, p ∈ all) (ha : news₂.map (·.1) = news.map (·.1))
    (h : ∀ h'' tk'', Fr h₀ L h'' m₂ → News h₀ L h'' news₂ → Q .next { s with heap := h'', toks := tk'' }) : KwOne h₀ L own news s Q .next { s with heap := h', toks := tk } :=
  ⟨rfl, h', tk, m₂, news₂, rfl, F, fun p hp => N p (hs p hp), ha, h⟩
section
variable {prog : Program} {w : World} {A : Around} {E : Value → Shared → Prop} {s : Shared} {env : Env} {h₀ : Heap} {m : Str → Option Value}
theorem kw_iter1 {news : List (Addr × Obj)} {d vw : Addr} {x a : Str} {xk xv : Str} {body : List Stmt} {Q : Flow → Shared → Prop}
    (hh : A.handled = none) (hxk : env.kindOf xk = some .local) (hxv : env.kindOf xv = some .local)
    (hp : (env.scope.kind == .class || (env.scope.kind == .module && env.locals != env.globals)) = false)
    (hvw : ∃ ov, s.heap.get? vw = some ov ∧ ov.cls = .type "dict_items" ∧ ov.data = .fields #[.ref d]) (T : StrTab prog w s.heap d [(.str x, .str a)]) (F : Fr h₀ env.locals s.heap m) (N : News h₀ env.locals s.heap news)
    (hd : (∃ o, h₀.get? d = some o) ∨ ∃ o, (d, o) ∈ news)
    (turn : ∀ t u h tk own, OwnAway own news d → Fr h₀ env.locals h (fun y => if y = xv then some (.str a u) else if y = xk then some (.str x t) else m y) → News h₀ env.locals h (own ++ news) →
      wpAny (model prog w) A (execs body env) (KwOne h₀ env.locals own news s Q) E { s with heap := h, toks := tk })
    (hE : PassesOwn (model prog w) A env E := by passes_own) :
    wpAny (model prog w) A (pyIter (.ref vw)) (fun it s₂ => PairLoopAt prog w A h₀ env xk xv body Q E it s₂) E s := by
  obtain ⟨lo, kvs, hdo, hf⟩ := id T
  obtain ⟨ep, hat⟩ := hdo.dictAt
  refine wpAny_pyIter_items (knd := strKind prog w) (d := d) (kvs := kvs) (ep := ep) hvw hat ?_
  intro pk pv pt x1
  have hlen : kvs.length = 1 := by have := hf.length; simpa using this.symm
  have hne : d ≠ s.heap.objs.size := Nat.ne_of_lt hat.lt_size
  have hlt : ∀ p ∈ news, p.1 ≠ s.heap.objs.size := fun p hp => Nat.ne_of_lt (Heap.lt_size (N p hp).1)
  refine kw_loop (knd := strKind prog w) (h₀ := h₀) (news := news) hh hxk hxv hp (Nat.ne_of_gt F.ns.lt) (fun e => tab_not_locals F N hd e) hne (next_is_new F) hlt (Heap.get?_push_size _ rfl) (hat.push _) (F.push _)
    (fun p hp => ⟨Heap.get?_push_of_some _ (N p hp).1, (N p hp).2⟩)
    (fun i m₁ news₁ => match i with | 0 => m₁ = m ∧ news₁ = news | _ + 1 => ∀ h'' tk'', Fr h₀ env.locals h'' m₁ → News h₀ env.locals h'' news₁ → Q .next { s with heap := h'', toks := tk'' }) ⟨rfl, rfl⟩ ?_ ?_
  · intro i k v key m₁ news₁ h₁ tk₁ own hx hkey hJ hown ha F₁ N₁
    have hi : i = 0 := by
      have := (List.getElem?_eq_some_iff.mp hx).1
      omega
    subst hi
    obtain ⟨rfl, rfl⟩ := hJ
    obtain ⟨dv, hD, hl, hfl⟩ := hf.lookup_at same_str hat.nodup hx
    simp only [List.getElem?_cons_zero, Option.some.injEq, Prod.mk.injEq, PyData.str.injEq] at hD
    obtain ⟨rfl, rfl⟩ := hD
    obtain ⟨t, rfl⟩ := Value.isStrOf_shape hkey
    obtain ⟨u, rfl⟩ := Flat.str_inv hfl
    have hoff : OwnAway own news₁ d := by
      intro b hb hbd p hpo e
      obtain ⟨q, hq, rfl⟩ := List.mem_map.mp hb
      rcases List.mem_cons.mp (hown p hpo) with e1 | e1
      · exact hlt q hq (e.symm.trans e1)
      · exact hbd (e.symm.trans (List.mem_singleton.mp e1))
    refine wpAny_mono (wpAny_passesOwn hE (turn t u h₁ tk₁ own hoff F₁ N₁)) (fun f s₂ q => ?_) fun _ _ z => z
    obtain ⟨rfl, h', tk, m₂, news₂, rfl, F₂, N₂, ha₂, hq⟩ := q
    exact ⟨rfl, h', tk, m₂, news₂, rfl, F₂, N₂, ha₂, hq⟩
  · intro h' tk m' news' F' N' hJ
    rw [hlen] at hJ
    exact hJ h' tk F' N'
end
end Mine
namespace Mine
theorem join_one {prog : Program} {w : World} {A : Around} {E : Value → Shared → Prop} {s : Shared} {h₀ : Heap} {L l : Addr} {n : Nat} {sep x : Str} {t u : Tok} {news : List (Addr × Obj)} {Q : Value → Shared → Prop}
    (N : News h₀ L s.heap news) (hm : (l, listOf #[.str x u] n) ∈ news) (hsep : sep.length ≤ 64) (hx : x.length ≤ 1000) (h : ∀ t' k, Q (.str x t') { s with toks := k }) :
    wpAny (model prog w) A (call (.builtin "str.join") [.str sep t, .ref l]) Q E s := by
  refine join_listC (ys := [x]) (PySem.IsL.isList (n := n) (N _ hm).1) (.cons _ _ .nil) hsep (by simp only [List.map_cons, List.map_nil, List.sum_cons, List.sum_nil, List.length_cons, List.length_nil]; omega) fun t' k => ?_
  have e : Txt.join sep [x] = x := by rfl
  rw [e]
  exact h t' k
end Mine
namespace Mine
theorem allLt_lt {D : Addr} : ∀ {l : List (Addr × Obj)}, AllLt D l → ∀ p ∈ l, p.1 < D
  | [], _ => fun _ hp => nomatch hp
  | q :: r, h => fun p hp => by
    rcases List.mem_cons.mp hp with rfl | hp
    · exact h.1
    · exact allLt_lt h.2 p hp
theorem lt1 {D : Addr} {l : List (Addr × Obj)} {a0 : Prop} (h : a0 ∧ AllLt D l) : ∀ p ∈ l, p.1 < D := allLt_lt h.2
theorem lt2 {D : Addr} {l : List (Addr × Obj)} {a0 a1 : Prop} (h : a0 ∧ a1 ∧ AllLt D l) : ∀ p ∈ l, p.1 < D := allLt_lt h.2.2
theorem lt3 {D : Addr} {l : List (Addr × Obj)} {a0 a1 a2 : Prop} (h : a0 ∧ a1 ∧ a2 ∧ AllLt D l) : ∀ p ∈ l, p.1 < D := allLt_lt h.2.2.2
theorem lt4 {D : Addr} {l : List (Addr × Obj)} {a0 a1 a2 a3 : Prop} (h : a0 ∧ a1 ∧ a2 ∧ a3 ∧ AllLt D l) : ∀ p ∈ l, p.1 < D := allLt_lt h.2.2.2.2
theorem lt5 {D : Addr} {l : List (Addr × Obj)} {a0 a1 a2 a3 a4 : Prop} (h : a0 ∧ a1 ∧ a2 ∧ a3 ∧ a4 ∧ AllLt D l) : ∀ p ∈ l, p.1 < D := allLt_lt h.2.2.2.2.2
theorem lt6 {D : Addr} {l : List (Addr × Obj)} {a0 a1 a2 a3 a4 a5 : Prop} (h : a0 ∧ a1 ∧ a2 ∧ a3 ∧ a4 ∧ a5 ∧ AllLt D l) : ∀ p ∈ l, p.1 < D := allLt_lt h.2.2.2.2.2.2
theorem lt7 {D : Addr} {l : List (Addr × Obj)} {a0 a1 a2 a3 a4 a5 a6 : Prop} (h : a0 ∧ a1 ∧ a2 ∧ a3 ∧ a4 ∧ a5 ∧ a6 ∧ AllLt D l) : ∀ p ∈ l, p.1 < D := allLt_lt h.2.2.2.2.2.2.2
theorem lt8 {D : Addr} {l : List (Addr × Obj)} {a0 a1 a2 a3 a4 a5 a6 a7 : Prop} (h : a0 ∧ a1 ∧ a2 ∧ a3 ∧ a4 ∧ a5 ∧ a6 ∧ a7 ∧ AllLt D l) : ∀ p ∈ l, p.1 < D := allLt_lt h.2.2.2.2.2.2.2.2
theorem lt9 {D : Addr} {l : List (Addr × Obj)} {a0 a1 a2 a3 a4 a5 a6 a7 a8 : Prop} (h : a0 ∧ a1 ∧ a2 ∧ a3 ∧ a4 ∧ a5 ∧ a6 ∧ a7 ∧ a8 ∧ AllLt D l) : ∀ p ∈ l, p.1 < D := allLt_lt h.2.2.2.2.2.2.2.2.2
theorem lt10 {D : Addr} {l : List (Addr × Obj)} {a0 a1 a2 a3 a4 a5 a6 a7 a8 a9 : Prop} (h : a0 ∧ a1 ∧ a2 ∧ a3 ∧ a4 ∧ a5 ∧ a6 ∧ a7 ∧ a8 ∧ a9 ∧ AllLt D l) : ∀ p ∈ l, p.1 < D := allLt_lt h.2.2.2.2.2.2.2.2.2.2
theorem lt11 {D : Addr} {l : List (Addr × Obj)} {a0 a1 a2 a3 a4 a5 a6 a7 a8 a9 a10 : Prop} (h : a0 ∧ a1 ∧ a2 ∧ a3 ∧ a4 ∧ a5 ∧ a6 ∧ a7 ∧ a8 ∧ a9 ∧ a10 ∧ AllLt D l) : ∀ p ∈ l, p.1 < D := allLt_lt h.2.2.2.2.2.2.2.2.2.2.2
theorem lt12 {D : Addr} {l : List (Addr × Obj)} {a0 a1 a2 a3 a4 a5 a6 a7 a8 a9 a10 a11 : Prop} (h : a0 ∧ a1 ∧ a2 ∧ a3 ∧ a4 ∧ a5 ∧ a6 ∧ a7 ∧ a8 ∧ a9 ∧ a10 ∧ a11 ∧ AllLt D l) : ∀ p ∈ l, p.1 < D := allLt_lt h.2.2.2.2.2.2.2.2.2.2.2.2
theorem lt13 {D : Addr} {l : List (Addr × Obj)} {a0 a1 a2 a3 a4 a5 a6 a7 a8 a9 a10 a11 a12 : Prop} (h : a0 ∧ a1 ∧ a2 ∧ a3 ∧ a4 ∧ a5 ∧ a6 ∧ a7 ∧ a8 ∧ a9 ∧ a10 ∧ a11 ∧ a12 ∧ AllLt D l) : ∀ p ∈ l, p.1 < D := allLt_lt h.2.2.2.2.2.2.2.2.2.2.2.2.2
theorem lt14 {D : Addr} {l : List (Addr × Obj)} {a0 a1 a2 a3 a4 a5 a6 a7 a8 a9 a10 a11 a12 a13 : Prop} (h : a0 ∧ a1 ∧ a2 ∧ a3 ∧ a4 ∧ a5 ∧ a6 ∧ a7 ∧ a8 ∧ a9 ∧ a10 ∧ a11 ∧ a12 ∧ a13 ∧ AllLt D l) : ∀ p ∈ l, p.1 < D := allLt_lt h.2.2.2.2.2.2.2.2.2.2.2.2.2.2
theorem lt15 {D : Addr} {l : List (Addr × Obj)} {a0 a1 a2 a3 a4 a5 a6 a7 a8 a9 a10 a11 a12 a13 a14 : Prop} (h : a0 ∧ a1 ∧ a2 ∧ a3 ∧ a4 ∧ a5 ∧ a6 ∧ a7 ∧ a8 ∧ a9 ∧ a10 ∧ a11 ∧ a12 ∧ a13 ∧ a14 ∧ AllLt D l) : ∀ p ∈ l, p.1 < D := allLt_lt h.2.2.2.2.2.2.2.2.2.2.2.2.2.2.2
/-- what add_header writes of a text as the parameter p -/
noncomputable def markS (a : Str) : Str := Str.ofString "p=\"" ++ Txt.replace (Txt.replace a (Str.ofString "\\") (Str.ofString "\\\\")) (Str.ofString "\"") (Str.ofString "\\\"") ++ Str.ofString "\""
end Mine
namespace Mine
theorem pick2 {h₀ h : Heap} {L : Addr} {a b c1 c2 c3 c4 c5 : Addr × Obj} {l : List (Addr × Obj)} (N : News h₀ L h (a :: b :: c1 :: c2 :: c3 :: c4 :: c5 :: l)) : News h₀ L h (a :: b :: l) := by
  intro p hp
  rcases List.mem_cons.mp hp with rfl | hp
  · exact N _ (.head _)
  rcases List.mem_cons.mp hp with rfl | hp
  · exact N _ (.tail _ (.head _))
  exact N _ (.tail _ (.tail _ (.tail _ (.tail _ (.tail _ (.tail _ (.tail _ hp)))))))
end Mine

end
/-! part Re1 -/
section
open PySem PySem.W PyProof.Rows PySem.Calls PySem.Spec
set_option maxRecDepth 100000
namespace Mine
theorem slot_search : Slot "re.Pattern" "search" "re.Pattern.search" :=
  .of (owner := "re.Pattern") (n := "search") (by rw [typeLookup_type, builtinLookup_eq_fast]; kernel_rfl) (by decide +kernel) (by decide +kernel) (by decide +kernel)
    (by first | exact .inl (by decide +kernel) | exact .inr (by decide +kernel)) (by rw [isSubtype_type]; kernel_rfl)
theorem plain_pattern : PlainAttrs "re.Pattern" :=
  ⟨⟨"object.__getattribute__", by rw [typeLookup_type, builtinLookup_eq_fast]; kernel_rfl, by decide +kernel⟩, by rw [typeLookup_type, builtinLookup_eq_fast]; kernel_rfl⟩
theorem type_search : typeOf (.builtin "re.Pattern.search") = pure (.type "method_descriptor") := by show builtinType _ = _; rw [builtinType_eq_fast]; kernel_rfl
theorem entry_search : entryFor table "re.Pattern.search" = some Builtin.«re.Pattern.search» := entryFor_of_tree (by kernel_rfl)
/-- the machine fails within n turns -/
noncomputable def endsIn : Nat → Sre.M → Bool
  | 0, _ => false
  | n + 1, m => match (m.runFor 4).outcome with
    | some .failed => true
    | some _ => false
    | none => endsIn n (m.runFor 4)
noncomputable def noHit (code : Array Nat) (x : Str) : Bool := endsIn 60 (Sre.forSearch code x.cps 0 0 x.cps.size false)
section
variable {M : Model} {A : Around} {E : Value → Shared → Prop} {s : Shared}
theorem drive_ends {Q : Sre.M → Shared → Prop} (h : ∀ m', m'.outcome = some .failed → Q m' s) : ∀ (n : Nat) (m : Sre.M), endsIn n m = true → ∀ k, n ≤ k → wpAny M A (Builtin.Re.reDrive k m) Q E s
  | 0, _, e, _, _ => by cases e
  | n + 1, m, e, 0, hk => absurd hk (by omega)
  | n + 1, m, e, k + 1, hk => by
    unfold endsIn at e
    unfold Builtin.Re.reDrive
    show wpAny M A (if (m.runFor 4).outcome.isSome = true then pure (m.runFor 4) else do rule "sre.turn"; Builtin.Re.reDrive k (m.runFor 4)) Q E s
    split at e
    · rename_i ho
      rw [ho]
      exact wpAny_pure (h _ ho)
    · cases e
    · rename_i ho
      rw [ho]
      exact wpAny_bind (wpAny_rule (drive_ends h n _ e k (by omega)))
theorem note_all (f : Nat → PUnit → Sem (ForInStep PUnit)) (hf : ∀ i (Q : ForInStep PUnit → Shared → Prop), Q (.yield ⟨⟩) s → wpAny M A (f i ⟨⟩) Q E s) {Q : PUnit → Shared → Prop} (h : Q ⟨⟩ s) : ∀ l : List Nat, wpAny M A (forIn l PUnit.unit f) Q E s
  | [] => wpAny_pure h
  | i :: l => by
    rw [List.forIn_cons]
    exact wpAny_bind (hf i _ (note_all f hf h l))
theorem run_none {m : Sre.M} {n : Nat} {Q : Option Sre.M → Shared → Prop} (e : endsIn n m = true) (hn : n ≤ 2 ^ 64) (h : Q none s) : wpAny M A (Builtin.Re.reRunToEnd m) Q E s := by
  unfold Builtin.Re.reRunToEnd
  refine wpAny_bind (drive_ends (fun m' hm => ?_) n m e _ hn)
  refine wpAny_bind (note_all _ (fun i Q' hQ => ?_) ?_ _)
  · by_cases hi : m'.seen.has i = true
    · simp only [hi, if_true]
      exact wpAny_bind (wpAny_rule (wpAny_pure hQ))
    · simp only [hi]
      exact wpAny_bind (wpAny_pure (wpAny_pure hQ))
  · rw [hm]
    exact wpAny_pure h
end
section
variable {prog : Program} {w : World} {A : Around} {E : Value → Shared → Prop} {s : Shared}
theorem named_one (v : Value) : Builtin.Re.reNamed "re.Pattern.search" "search" ["string", "pos", "endpos"] 1 [v] [] = pure [some v, none, none] := by
  kernel_rfl
theorem call_search {p c : Addr} {x : Str} {t : Tok} {pt fl : Value} {cd : Array Value} {n : Nat} {t1 t2 : Tok} {Q : Value → Shared → Prop}
    (hp : s.heap.get? p = some { cls := .type "re.Pattern", data := .fields #[pt, fl, .int 0 t1, .none, .none, .ref c, .int 0 t2] })
    (hc : s.heap.get? c = some { cls := .type "tuple", data := .seq cd n })
    (hx : x.length ≤ 1000) (hn : noHit ((cd.map Builtin.Re.reRawOf).map (·.toNat)) x = true) (h : Q .none s) :
    wpAny (model prog w) A (call (.builtin "re.Pattern.search") [.ref p, .str x t]) Q E s := by
  refine wpAny_call_entry slot_search ⟨_, hp, rfl⟩ entry_search ?_ (by kernel_rfl)
  unfold Builtin.«re.Pattern.search» Builtin.Re.reTarget
  refine wpAny_bind ?_
  show wpAny _ _ (Builtin.Re.reNamed _ _ _ _ _ _ >>= _) _ _ _
  rw [named_one]
  refine wpAny_bind (wpAny_pure ?_)
  dsimp only
  refine wpAny_bind (wpAny_pure ?_)
  refine wpAny_bind (wpAny_pure ?_)
  refine wpAny_bind (wpAny_fieldsOf hp rfl ?_)
  have ht : Builtin.Re.reTextOf (.str x t) = pure (x.cps, 0) := by rfl
  rw [ht]
  refine wpAny_bind (wpAny_pure ?_)
  show wpAny _ _ (Builtin.Re.reNoCollectionInside (.str x t) 0 >>= fun _ => Builtin.Re.reRawItems (.ref c) >>= fun ri => pure _) _ _ _
  refine wpAny_bind (wpAny_pure ?_)
  refine wpAny_bind ?_
  unfold Builtin.Re.reRawItems
  refine wpAny_bind (wpAny_seqItems hc rfl ?_)
  refine wpAny_pure (wpAny_pure ?_)
  unfold Builtin.Re.reAnswer
  refine wpAny_bind (run_none (n := 60) ?_ (by decide) (wpAny_pure ⟨_, rfl, h⟩))
  have hl : min (2 ^ 63 - 1 : Int).toNat x.cps.size = x.cps.size := by
    have : x.cps.size = x.length := rfl
    rw [this]
    refine Nat.min_eq_right ?_
    omega
  show endsIn 60 (Sre.forSearch _ x.cps 0 (min (0 : Int).toNat x.cps.size) (min (2 ^ 63 - 1 : Int).toNat x.cps.size) false) = true
  rw [hl, show min (0 : Int).toNat x.cps.size = 0 from Nat.zero_min _]
  exact hn
end
end Mine
namespace Mine
section
variable {prog : Program} {w : World} {A : Around} {E : Value → Shared → Prop} {s : Shared} {x y z : Str} {t u v : Tok} {Q : Value → Shared → Prop}
theorem rep_none (hx : (Builtin.Str.occurrences x y 0 x.length (x.length + 1)).isEmpty = true) (hq : Q (.str x t) s) : wpAny (model prog w) A (call (.builtin "str.replace") [.str x t, .str y u, .str z v]) Q E s := by
  have hc : ((Builtin.Str.occurrences x y 0 x.length (x.length + 1)).isEmpty || (y.length == 0 && z.length == 0)) = true := by rw [hx]; rfl
  refine call_gives PySem.F.slot_str_replace (typeIs_str _ _ _) PySem.F.entry_str_replace (PySem.F.args_str_replace_3 _ _ _) (gives_str_replace x y z t u v fun h => ?_) ?_
  · rw [hc] at h; cases h
  · rw [if_pos hc]
    exact hq
end
end Mine

end
/-! part Re2 -/
section
open PySem PySem.W PyProof.Rows PySem.Calls PySem.Spec
set_option maxRecDepth 100000
namespace Mine
noncomputable def codeN : Array Nat := #[14, 10, 4, 1, 1, 22, 0, 31, 16, 127, 0, 13, 7, 22, 0, 31, 16, 127, 0, 1]
noncomputable def codeV : Array Nat := #[14, 14, 4, 1, 1, 9, 4294966783, 0, 0, 2147483648, 0, 0, 0, 0, 0, 13, 11, 9, 4294966783, 0, 0, 2147483648, 0, 0, 0, 0, 0, 1]
noncomputable def cleanN (x : Str) : Bool := noHit codeN x
noncomputable def cleanV (x : Str) : Bool := noHit codeV x
section
variable {prog : Program} {w : World} {A : Around} {E : Value → Shared → Prop} {s : Shared} {h₀ : Heap} {L : Addr} {m : Str → Option Value} {x : Str} {t : Tok}
theorem gm83 {pl : Sem Bool} {Q : Value × List Value → Shared → Prop} (F : Fr h₀ L s.heap m) (X : (Mine.hd.heap_39 w.params).In h₀) (h : Q (.builtin "re.Pattern.search", [.ref 83]) s) :
    wpAny (model prog w) A (getMethod (.ref 83) (Str.ofString "search") pl) Q E s := by
  have hp : s.heap.get? 83 = some _ := F.keep _ _ (X 83 _ rfl)
  exact getMethod_builtin ⟨_, hp, rfl⟩ plain_pattern slot_search type_search (fun a e => by cases e; exact ⟨_, hp, rfl⟩) h
theorem gm88 {pl : Sem Bool} {Q : Value × List Value → Shared → Prop} (F : Fr h₀ L s.heap m) (X : (Mine.hd.heap_39 w.params).In h₀) (h : Q (.builtin "re.Pattern.search", [.ref 88]) s) :
    wpAny (model prog w) A (getMethod (.ref 88) (Str.ofString "search") pl) Q E s := by
  have hp : s.heap.get? 88 = some _ := F.keep _ _ (X 88 _ rfl)
  exact getMethod_builtin ⟨_, hp, rfl⟩ plain_pattern slot_search type_search (fun a e => by cases e; exact ⟨_, hp, rfl⟩) h
theorem search83 {Q : Value → Shared → Prop} (F : Fr h₀ L s.heap m) (X : (Mine.hd.heap_39 w.params).In h₀) (hx : x.length ≤ 1000) (hn : cleanN x = true) (h : Q .none s) :
    wpAny (model prog w) A (call (.builtin "re.Pattern.search") [.ref 83, .str x t]) Q E s := by
  have hp : s.heap.get? 83 = some _ := F.keep _ _ (X 83 _ rfl)
  have hc : s.heap.get? 82 = some _ := F.keep _ _ (X 82 _ rfl)
  have key : ∀ c, c = codeN → noHit c x = true := fun c hc => hc ▸ hn
  exact call_search hp hc hx (key _ (by decide +kernel)) h
theorem search88 {Q : Value → Shared → Prop} (F : Fr h₀ L s.heap m) (X : (Mine.hd.heap_39 w.params).In h₀) (hx : x.length ≤ 1000) (hn : cleanV x = true) (h : Q .none s) :
    wpAny (model prog w) A (call (.builtin "re.Pattern.search") [.ref 88, .str x t]) Q E s := by
  have hp : s.heap.get? 88 = some _ := F.keep _ _ (X 88 _ rfl)
  have hc : s.heap.get? 87 = some _ := F.keep _ _ (X 87 _ rfl)
  have key : ∀ c, c = codeV → noHit c x = true := fun c hc => hc ▸ hn
  exact call_search hp hc hx (key _ (by decide +kernel)) h
end
theorem clean_try : cleanV (Str.ofString "p=\"b\\\"\\\\a\\\\\\\\\"") = true ∧ cleanN (Str.ofString "one") = true := by decide +kernel
end Mine

end
section
open PySem PySem.W PyProof.Rows PySem.Calls PySem.Spec Mine
local macro_rules | `(tactic| k_all) => `(tactic| first | assumption | exact OwnOff.ne (by assumption) (List.Mem.head _) | (refine all_app ?_ ?_ <;> k_all) | exact al0 (by assumption) | exact al1 (by assumption) | exact al2 (by assumption) | exact al3 (by assumption))
/-! part Q1 -/
section
open PySem PySem.W PyProof.Rows PySem.Calls PySem.Spec
namespace Mine
local macro_rules | `(tactic| walk_at "call builtin:str.join") => `(tactic| (k_here; k_dflt (refine' join_one ?k1 ?k2 ?k3 ?k4 ?_; (case k1 => k_asm); (case k2 => k_mem); (case k3 => decide +kernel); (case k4 => first | assumption | omega)); intro t' k'))
local macro_rules | `(tactic| walk_at "exec For Tuple Call") => `(tactic| ((rename Obj.IsDictOf _ _ _ => dictLook); with_unfolding_all ((rename Fr _ _ _ _ => F'); (rename News _ _ _ _ => N'); (with_reducible apply For_pair_unrF); (case _F => with_unfolding_all exact F'); (case hs => (intro _; with_unfolding_all rfl)); (refine MethodCall_ ?_); (refine ld F' (by rfl) ?_); (refine getMethod_tab PySem.F.slot_dict_items PySem.F.type_dict_items (by first | assumption | exact TabAt.ofFr (by assumption) (by assumption) | exact TabAt.ofNews (by assumption) (by first | exact .head _ | exact .tail _ (.head _) | exact .tail _ (.tail _ (.head _))) (by assumption) (by assumption) (by assumption)) ?_); (refine callWith_method0 ?_); (refine call_items_tab (by first | assumption | exact TabAt.ofFr (by assumption) (by assumption) | exact TabAt.ofNews (by assumption) (by first | exact .head _ | exact .tail _ (.head _) | exact .tail _ (.tail _ (.head _))) (by assumption) (by assumption) (by assumption)) F' N' ?_); intro _ _ hv5' F5' N5'; (refine kw_iter1 (by rfl) (by rfl) (by rfl) (by rfl) hv5' (by first | assumption | exact TabAt.ofFr (by assumption) (by assumption) | exact TabAt.ofNews (by assumption) (by first | exact .head _ | exact .tail _ (.head _) | exact .tail _ (.tail _ (.head _))) (by assumption) (by assumption) (by assumption)) F5' (news_tail N5') (by first | exact .inr ⟨_, .head _⟩ | exact .inr ⟨_, .tail _ (.head _)⟩ | exact .inr ⟨_, .tail _ (.tail _ (.head _))⟩ | exact .inr ⟨_, .tail _ (.tail _ (.tail _ (.head _)))⟩) ?_); clear N5' F'; intro t' u' h' tk' own' hoff' F' N'; (try dsimp only))))
local macro_rules | `(tactic| k_upd) => `(tactic| (refine' upd_app ?a ?b; (case a => exact (by assumption : OwnAway _ _ _) _ (by k_mem) (by k_ne)); (case b => k_upd)))
local macro_rules | `(tactic| walk_at "exec For Tuple Name cons nil") => `(tactic| (k_here; k_dflt (refine' for_empty ?k0 ?k1 ?k2 ?k3 ?k4 ?_ ?k5; (case k4 => (intro Q9 hQ9; refine' ld ?q1 ?q2 hQ9; (case q1 => k_asm); (case q2 => exact rfl))); (case k0 => rfl); (case k1 => k_asm); (case k2 => k_asm); (case k3 => k_mem); (case k5 => (intro _; rfl))); intro h' F' N'))
local macro_rules | `(tactic| walk_at "getMethod ref") => `(tactic| (k_here; k_dflt (first | (with_reducible show wpAny _ _ (getMethod (Value.ref 83) _ _) _ _ _); refine' gm83 ?k1 ?k2 ?_; (case k1 => k_asm); (case k2 => k_asm) | (with_reducible show wpAny _ _ (getMethod (Value.ref 88) _ _) _ _ _); refine' gm88 ?k1 ?k2 ?_; (case k1 => k_asm); (case k2 => k_asm))))
local macro_rules | `(tactic| walk_at "call builtin:re.Pattern.search") => `(tactic| (k_here; k_dflt (first | (with_reducible show wpAny _ _ (call _ [Value.ref 83, Value.str _ _]) _ _ _); refine' search83 ?k1 ?k2 ?k3 ?k4 ?_; (case k1 => k_asm); (case k2 => k_asm); (case k3 => first | assumption | omega | decide +kernel); (case k4 => first | assumption | decide +kernel) | (with_reducible show wpAny _ _ (call _ [Value.ref 88, Value.str _ _]) _ _ _); refine' search88 ?k1 ?k2 ?k3 ?k4 ?_; (case k1 => k_asm); (case k2 => k_asm); (case k3 => first | assumption | omega | decide +kernel); (case k4 => first | assumption | decide +kernel))))
local macro_rules | `(tactic| walk_at "execs cons") => `(tactic| ((with_reducible refine wpAny_execs_cons ?_); try dsimp only))
local macro_rules | `(tactic| walk_at "call builtin:str.replace") => `(tactic| (k_here; k_dflt (refine' tok_up 1 ?r0 (SC.replaceW ?r1 ?r2 ?r3 ?r4 ?r5 ?r6 ?_); (case r0 => ((try dsimp only); omega)); (case r1 => k_ne); (case r2 => k_ne); (case r3 => k_ne); (case r4 => decide +kernel); (case r5 => omega); (case r6 => decide +kernel)); intro t' k' hk'; (try dsimp only at hk')))
local macro_rules | `(tactic| walk_at "call builtin:str.replace") => `(tactic| (k_here; (refine rep_none (by decide +kernel) ?_)))
set_option maxRecDepth 100000 in
set_option maxHeartbeats 8000000 in
theorem quo_call (w : World) {mean : ExcName → Option Value} {mg mb : Str → Option Value} {gd : Option (List Code)} {cn : Str} {csc : Scope} {aa : Addr} {ccd : Value} {cl : List (Str × Addr)} {outer : List Env} {A₀ : Around} {base h₀ : Heap} {L : Addr} {m : Str → Option Value} {s : Shared} {Q E : Value → Shared → Prop}
    {news : List (Addr × Obj)} {a : Str} {ta : Tok}
    (B₀ : Below A₀ base outer h₀) (F₀ : Fr h₀ L s.heap m) (X₀ : (Mine.hd.heap_39 w.params).In h₀) (N₀ : News h₀ L s.heap news) (T₀ : Top topProg looseG mean mg mb h₀) (hkind : csc.kind = ScopeKind.function)
    (hla : a.length ≤ 40) (hla0 : 0 < a.length) (hcl : cleanV a = true) (hR1 : (Txt.replace a (Str.ofString "\\") (Str.ofString "\\\\")).length ≤ 40) (hR2 : (Txt.replace (Txt.replace a (Str.ofString "\\") (Str.ofString "\\\\")) (Str.ofString "\"") (Str.ofString "\\\"")).length ≤ 60) (hM : (Str.ofString "p=\"" ++ Txt.replace (Txt.replace a (Str.ofString "\\") (Str.ofString "\\\\")) (Str.ofString "\"") (Str.ofString "\\\"") ++ Str.ofString "\"").length ≤ 1000)
    (hret : ∀ (D T : Addr) (t1 t2 : Tok) (h' : Heap) (tk' : Nat), Fr h₀ L h' m → News h₀ L h' ((D, listOf #[Value.ref T] 0) :: (T, { cls := Value.type "tuple", data := Data.seq #[Value.str (Str.ofString "one") t1, Value.str (markS a) t2] }) :: news) →
      T < D → (∀ p ∈ news, p.1 < T) → Q (.ref D) { s with heap := h', toks := tk' }) :
    wpAny (model PySem.Challenge.rw_pe0249_01.row.prog w) (ktrTop 302 7 gd cn csc L aa ccd cl outer) (call (.ref 228) [.str a ta]) Q E s := by
  have : Mine.hd.heap_39 w.params = Mine.hd.heap_39 w.params ∧ PySem.Challenge.rw_pe0249_01 = PySem.Challenge.rw_pe0249_01 := by
    k_fill
    exact ⟨rfl, rfl⟩
  clear this
  k_with_none
  w_top off
  refine wpAny_call ?_
  k_dflt cell_enter
  repeat' (first | (k_unfold; (try dsimp only)) | (k_end; wrow_close) | walk1 | (dsimp only; walk1) | (leave1; walk_say "STEP leave1"; try dsimp only) | ((with_reducible show KwOne _ _ _ _ _ _ _ _); (refine kw_end (by assumption) (by assumption) (by first | exact fun p hp => hp | exact fun p hp => .tail _ hp | exact fun p hp => .tail _ (.tail _ hp) | exact fun p hp => .tail _ (.tail _ (.tail _ hp))) (by rfl) ?_); intro h' tk' F' N'; (try dsimp only)) | fail "no step")
  (rename News _ _ _ _ => lN')
  have N9 := pick2 lN'
  exact hret _ _ _ _ _ _ (by assumption) N9 (ltN (by omega)) (by first | exact lt5 (by assumption) | exact lt4 (by assumption) | exact lt6 (by assumption))
end Mine

end
/-! part Cram1 -/
section
open PySem PySem.W PyProof.Rows PySem.Calls PySem.Spec
namespace Mine
/-- what cram leaves of a text at a width -/
noncomputable def cramS (a : Str) (n : Int) : Str := Txt.slice a none (some (if (n - 3).fdiv 2 > 0 then (n - 3).fdiv 2 else 0)) ++ Str.ofString "..." ++ Txt.slice a (some (a.length - if (n - 3 - if (n - 3).fdiv 2 > 0 then (n - 3).fdiv 2 else 0) > 0 then n - 3 - if (n - 3).fdiv 2 > 0 then (n - 3).fdiv 2 else 0 else 0)) none
local macro_rules | `(tactic| cell_enter) => `(tactic| (refine' code_def ?k1 ?k2 ?k3 ?k4 ?k5 ?kA ?kF ?kK ?k6 ?k7 ?k8 ?k9 ?kB ?_ ?c2 ?c3 ?c4 ?c5; (case kA => exact rfl); (case kF => exact rfl); (case kK => first | exact rfl | assumption); (case k1 => k_asm); (case k2 => k_asm); (case k3 => k_asm); (case k4 => k_asm); (case k5 => k_asm); (case k6 => k_is); (case k7 => k_is); (case k8 => first | k_room | ktr_room); (case k9 => first | exact BindsTo.of_eq rfl | exact binds_K (by k_in) rfl (by k_is) rfl rfl rfl); (case c5 => decide); (case kB => exact locs rfl); (case c2 => exact rfl); (case c3 => exact rfl); (case c4 => exact rfl); k_whole; intro g' L' h' FG' F' N' B' X' T'; (try dsimp only); (try k_lift B'); (try k_fold)))
set_option maxRecDepth 100000 in
set_option maxHeartbeats 8000000 in
theorem cram_call (w : World) {mean : ExcName → Option Value} {mg mb : Str → Option Value} {dp un : Nat} {gd : Option (List Code)} {cn : Str} {csc : Scope} {aa : Addr} {ccd : Value} {cl : List (Str × Addr)} {outer : List Env} {A₀ : Around} {base h₀ : Heap} {L : Addr} {m : Str → Option Value} {s : Shared} {Q E : Value → Shared → Prop}
    {news : List (Addr × Obj)}
    {a : Str} {n : Int} {ta tn : Tok}
    (B₀ : Below A₀ base outer h₀) (F₀ : Fr h₀ L s.heap m) (X₀ : (Mine.hd.heap_39 w.params).In h₀) (N₀ : News h₀ L s.heap news) (T₀ : Top topProg looseG mean mg mb h₀) (hkind : csc.kind = ScopeKind.function)
    (hla : a.length ≤ 40) (hn0 : 3 ≤ n) (hn1 : n < a.length) (hdp : dp + 1 < recursionLimit) (hun : un + 8 < cLine)
    (hret : ∀ (t : Tok) (h' : Heap) (tk' : Nat), Fr h₀ L h' m → News h₀ L h' news → Q (.str (cramS a n) t) { s with heap := h', toks := tk' }) :
    wpAny (model PySem.Challenge.rw_pe0249_01.row.prog w) (ktrTop dp un gd cn csc L aa ccd cl outer) (call (.ref 66) [.str a ta, .int n tn]) Q E s := by
  have : Mine.hd.heap_39 w.params = Mine.hd.heap_39 w.params ∧ PySem.Challenge.rw_pe0249_01 = PySem.Challenge.rw_pe0249_01 := by
    k_fill
    exact ⟨rfl, rfl⟩
  clear this
  k_with_none
  w_top off
  refine wpAny_call ?_
  k_dflt cell_enter
  k_steps
  exact hret _ _ _ (by assumption) (by assumption)
end Mine

end
/-! part Rep1 -/
section
open PySem PySem.W PyProof.Rows PySem.Calls PySem.Spec
namespace Mine
/-- one turn of replace -/
noncomputable def swapS (a x y : Str) : Str := Txt.join y (Txt.split a x)
noncomputable def swapOk (a x : Str) : Prop := ((Txt.split a x).map (·.length)).sum + (Txt.split a x).length * 64 ≤ 16777216
noncomputable def rep1 (a : Str) : Str := swapS a (Str.ofString "\\\\") (Str.ofString "\x01")
noncomputable def rep2 (a : Str) : Str := swapS (rep1 a) (Str.ofString "\\\"") (Str.ofString "\"")
noncomputable def rep3 (a : Str) : Str := swapS (rep2 a) (Str.ofString "\x01") (Str.ofString "\\")
theorem join_split {prog : Program} {w : World} {A : Around} {E : Value → Shared → Prop} {s : Shared} {h₀ : Heap} {L l : Addr} {n : Nat} {a x y : Str} {t : Tok} {news : List (Addr × Obj)} {l' : List (Str × Tok)} {Q : Value → Shared → Prop}
    (N : News h₀ L s.heap news) (hm : (l, listOf (strValues l').toArray n) ∈ news) (e : l'.map (·.1) = Txt.split a x) (ok : swapOk a x) (hy : y.length ≤ 64) (h : ∀ t' k, Q (.str (swapS a x y) t') { s with toks := k }) :
    wpAny (model prog w) A (call (.builtin "str.join") [.str y t, .ref l]) Q E s := by
  refine join_listC (ys := Txt.split a x) (PySem.IsL.isList (n := n) (N _ hm).1) (by rw [← e]; exact strsAre_of_values l') hy ok h
theorem tup_from2 {prog : Program} {w : World} {A : Around} {E : Value → Shared → Prop} {s : Shared} {h₀ : Heap} {L t : Addr} {m : Str → Option Value} {news : List (Addr × Obj)} {value slice : PySem.Expr} {x y : Value} {l : List Value} {n : Nat} {u : Tok} {Q : Value → Shared → Prop}
    (F : Fr h₀ L s.heap m) (N : News h₀ L s.heap news) (hm : (t, ({ cls := .type "tuple", data := .seq (x :: y :: l).toArray n } : Obj)) ∈ news) (hl : l.length ≤ 40)
    (h : ∀ D h', Fr h₀ L h' m → News h₀ L h' ((D, { cls := .type "tuple", data := .seq l.toArray }) :: news) → (∀ p ∈ news, p.1 < D) → Q (.ref D) { s with heap := h' })
    (hs : subscripted slice false (.ref t) (.ref s.heap.objs.size) = operate [.ref s.heap.objs.size, .ref t] (getItem (.ref t) (.ref s.heap.objs.size)))
    (hg : ∀ r, letTemporaryGo value (.ref t) r = pure ()) :
    wpAny (model prog w) A (subscriptTail value slice (.ref t) (.ref s.heap.objs.size)) Q E { s with heap := s.heap.push { cls := .type "slice", data := .fields #[.int 2 u, .none, .none] } } :=
  slice_tuple_from (a := 2) F N (News.isTup N hm) (by omega) (by simp) (fun h' F' N' => h _ h' F' N' fun p hp => Nat.lt_succ_of_lt (Heap.lt_size (N p hp).1)) hs hg (by rw [PySem.sizeLine_eq]; simp; omega)
local macro_rules | `(tactic| cell_enter) => `(tactic| (refine' kp_rest ?k1 ?k2 ?k3 ?k4 ?k5 ?kA ?kF ?kK ?k6 ?k7 ?k8 ?kV ?kP ?kG ?kB ?_ ?c2 ?c3 ?c4 ?c5; (case kA => exact rfl); (case kF => exact rfl); (case kK => first | exact rfl | assumption); (case k1 => k_asm); (case k2 => k_asm); (case k3 => k_asm); (case k4 => k_asm); (case k5 => k_asm); (case k6 => k_is); (case k7 => k_is); (case k8 => first | k_room | ktr_room); (case kV => kl_lit); (case kP => exact rfl); (case kG => exact fun _ => rfl); (case kB => exact fun _ => locs rfl); (case c5 => decide); (case c2 => exact rfl); (case c3 => exact rfl); (case c4 => exact rfl); k_whole; intro D' g' L' h' l1 FG' F' N' B' X' T'; (try k_lt l1); (try dsimp only); (try k_lift B'); (try k_fold)))
local macro_rules | `(tactic| walk_at "exec While") => `(tactic| (k_here; k_dflt (refine whl_start 100 ?_)))
local macro_rules | `(tactic| walk_at "call builtin:str.split") => `(tactic| (k_here; k_dflt (refine' KSpl.split1 ?k1 ?k2 ?k3 ?_ ?k4; (case k1 => k_asm); (case k2 => k_asm); (case k3 => decide +kernel); (case k4 => (rw [PySem.sizeLine_eq]; omega)));  intro D' l' h' k' e' a' F' N' l1; (try k_lt l1)))
local macro_rules | `(tactic| walk_at "call builtin:str.join") => `(tactic| (k_here; k_dflt (refine' join_split ?k1 ?k2 ?k3 ?k4 ?k5 ?_; (case k1 => k_asm); (case k2 => k_mem); (case k3 => assumption); (case k4 => assumption); (case k5 => decide +kernel)); intro t' k'))
local macro_rules | `(tactic| walk_at "subscriptTail Name Slice ref ref") => `(tactic| (k_here; (with_reducible show wpAny _ _ (subscriptTail _ (Expr.Slice (some _) none none _) (Value.ref _) _) _ _ _); k_dflt (refine' tup_from2 (s := ⟨_, _, _, _, _⟩) ?k1 ?k2 ?k3 ?k4 ?_ ?k5 ?k6; (case k1 => k_asm); (case k2 => k_asm); (case k3 => k_mem); (case k4 => exact Nat.le_of_ble_eq_true rfl); (case k5 => with_unfolding_all rfl); (case k6 => (intro _; with_unfolding_all rfl))); intro D' h' F' N' l1; (try k_lt l1)))
set_option maxRecDepth 100000 in
set_option maxHeartbeats 8000000 in
theorem rep_call (w : World) {mean : ExcName → Option Value} {mg mb : Str → Option Value} {gd : Option (List Code)} {cn : Str} {csc : Scope} {aa : Addr} {ccd : Value} {cl : List (Str × Addr)} {outer : List Env} {A₀ : Around} {base h₀ : Heap} {L : Addr} {m : Str → Option Value} {s : Shared} {Q E : Value → Shared → Prop}
    {news : List (Addr × Obj)}
    {a : Str} {ta t1 t2 t3 t4 t5 t6 : Tok}
    (B₀ : Below A₀ base outer h₀) (F₀ : Fr h₀ L s.heap m) (X₀ : (Mine.hd.heap_39 w.params).In h₀) (N₀ : News h₀ L s.heap news) (T₀ : Top topProg looseG mean mg mb h₀) (hkind : csc.kind = ScopeKind.function)
    (hla : a.length ≤ 40) (ok1 : swapOk a (Str.ofString "\\\\")) (hl1 : (swapS a (Str.ofString "\\\\") (Str.ofString "\x01")).length ≤ 100) (ok2 : swapOk (swapS a (Str.ofString "\\\\") (Str.ofString "\x01")) (Str.ofString "\\\"")) (hl2 : (swapS (swapS a (Str.ofString "\\\\") (Str.ofString "\x01")) (Str.ofString "\\\"") (Str.ofString "\"")).length ≤ 100) (ok3 : swapOk (swapS (swapS a (Str.ofString "\\\\") (Str.ofString "\x01")) (Str.ofString "\\\"") (Str.ofString "\"")) (Str.ofString "\x01"))
    (hret : ∀ (t : Tok) (h' : Heap) (tk' : Nat), Fr h₀ L h' m → News h₀ L h' news → Q (.str (rep3 a) t) { s with heap := h', toks := tk' }) :
    wpAny (model PySem.Challenge.rw_pe0249_01.row.prog w) (ktrTop 302 7 gd cn csc L aa ccd cl outer) (call (.ref 59) [.str a ta, .str (Str.ofString "\\\\") t1, .str (Str.ofString "\x01") t2, .str (Str.ofString "\\\"") t3, .str (Str.ofString "\"") t4, .str (Str.ofString "\x01") t5, .str (Str.ofString "\\") t6]) Q E s := by
  have : Mine.hd.heap_39 w.params = Mine.hd.heap_39 w.params ∧ PySem.Challenge.rw_pe0249_01 = PySem.Challenge.rw_pe0249_01 := by
    k_fill
    exact ⟨rfl, rfl⟩
  clear this
  k_with_none
  w_top off
  refine wpAny_call ?_
  k_dflt cell_enter
  k_steps
  (rename News _ _ _ _ => lN')
  exact hret _ _ _ (by assumption) (fun p hp => lN' p (by repeat (first | exact hp | apply List.Mem.tail)))
end Mine

end
/-! part Due1 -/
section
open PySem PySem.W PyProof.Rows PySem.Calls PySem.Spec
namespace Mine
/-- the crams that are due -/
noncomputable def dueS (a : Str) (f b : Int) : Str := Txt.slice a none (some f) ++ Str.ofString "..." ++ Txt.slice a (some (a.length - b)) none
local macro_rules | `(tactic| cell_enter) => `(tactic| (refine' code_def ?k1 ?k2 ?k3 ?k4 ?k5 ?kA ?kF ?kK ?k6 ?k7 ?k8 ?k9 ?kB ?_ ?c2 ?c3 ?c4 ?c5; (case kA => exact rfl); (case kF => exact rfl); (case kK => first | exact rfl | assumption); (case k1 => k_asm); (case k2 => k_asm); (case k3 => k_asm); (case k4 => k_asm); (case k5 => k_asm); (case k6 => k_is); (case k7 => k_is); (case k8 => first | k_room | ktr_room); (case k9 => first | exact BindsTo.of_eq rfl | exact binds_K (by k_in) rfl (by k_is) rfl rfl rfl); (case c5 => decide); (case kB => exact locs rfl); (case c2 => exact rfl); (case c3 => exact rfl); (case c4 => exact rfl); k_whole; intro g' L' h' FG' F' N' B' X' T'; (try dsimp only); (try k_lift B'); (try k_fold)))
theorem whl_both {p : Prop} [Decidable p] {T F : Prop} (h1 : p → T) (h2 : ¬p → F) : WhlIf (decide p) T F := by
  by_cases h : p
  · exact WhlIf.yes (decide_eq_true h) (h1 h)
  · exact WhlIf.no (decide_eq_false h) (h2 h)
local macro_rules | `(tactic| walk_at "WhlIf") => `(tactic| (first | (refine WhlIf.yes (decide_eq_true (by omega)) ?_) | (refine WhlIf.no (decide_eq_false (by omega)) ?_) | (refine whl_both ?_ ?_ <;> intro hw)))
set_option maxRecDepth 100000 in
set_option maxHeartbeats 8000000 in
theorem due_call (w : World) {mean : ExcName → Option Value} {mg mb : Str → Option Value} {dp un : Nat} {gd : Option (List Code)} {cn : Str} {csc : Scope} {aa : Addr} {ccd : Value} {cl : List (Str × Addr)} {outer : List Env} {A₀ : Around} {base h₀ : Heap} {L : Addr} {m : Str → Option Value} {s : Shared} {Q E : Value → Shared → Prop}
    {news : List (Addr × Obj)}
    {a : Str} {ta : Tok} {C : List Str}
    (B₀ : Below A₀ base outer h₀) (F₀ : Fr h₀ L s.heap m) (X₀ : (Mine.hd.heap_39 w.params).In h₀) (N₀ : News h₀ L s.heap news) (T₀ : Top topProg looseG mean mg mb h₀) (hkind : csc.kind = ScopeKind.function)
    (hla : 4 ≤ a.length) (hlb : a.length ≤ 6) (d4 : a.length = 4 → [dueS a 0 0] = C) (d5 : a.length = 5 → [dueS a 0 0, dueS a 0 1] = C) (d6 : a.length = 6 → [dueS a 0 0, dueS a 0 1, dueS a 1 1] = C) (hdp : dp + 1 < recursionLimit) (hun : un + 8 < cLine)
    (hret : ∀ (D : Addr) (vs : List Value) (n : Nat) (h' : Heap) (tk' : Nat), Fr h₀ L h' m → News h₀ L h' ((D, listOf vs.toArray n) :: news) → (∀ p ∈ news, p.1 < D) → StrsAre vs C → Q (.ref D) { s with heap := h', toks := tk' }) :
    wpAny (model PySem.Challenge.rw_pe0249_01.row.prog w) (ktrTop dp un gd cn csc L aa ccd cl outer) (call (.ref 235) [.str a ta]) Q E s := by
  have : Mine.hd.heap_39 w.params = Mine.hd.heap_39 w.params ∧ PySem.Challenge.rw_pe0249_01 = PySem.Challenge.rw_pe0249_01 := by
    k_fill
    exact ⟨rfl, rfl⟩
  clear this
  k_with_none
  w_top off
  refine wpAny_call ?_
  k_dflt cell_enter
  k_steps
  all_goals (rename News _ _ _ _ => lN')
  all_goals refine hret _ _ _ _ _ (by assumption) lN' (by assumption) ?_
  all_goals first | rw [← d4 (by omega)] | rw [← d5 (by omega)] | rw [← d6 (by omega)]
  all_goals repeat (first | exact .nil | refine .cons _ _ ?_)
end Mine

end
/-! part LaidF -/
section
open PySem PySem.W PyProof.Rows PySem.Calls PySem.Spec PyProof.V
namespace Mine

theorem strs_get : ∀ {vs : List Value} {ys : List Str}, StrsAre vs ys → ∀ k : Nat, k < ys.length → ∃ t, vs[k]? = some (.str (ys.getD k default) t)
  | _, _, .nil, k, h => by simp at h
  | _, _, .cons y t r, 0, _ => ⟨t, rfl⟩
  | _, _, .cons y t r, k + 1, h => by
    obtain ⟨u, hu⟩ := strs_get r k (by simpa using h)
    exact ⟨u, by simpa using hu⟩
theorem strs_item {prog : Program} {w : World} {A : Around} {E : Value → Shared → Prop} {s : Shared} {h₀ : Heap} {L l : Addr} {news : List (Addr × Obj)} {value slice : PySem.Expr} {vs : List Value} {ys : List Str} {n : Nat} {k : Int} {u : Tok} {Q : Value → Shared → Prop}
    (N : News h₀ L s.heap news) (hm : (l, listOf vs.toArray n) ∈ news) (hi : StrsAre vs ys) (h0 : 0 ≤ k) (h1 : k < ys.length) (hb : ys.length ≤ 1000) (h : ∀ t, Q (.str (ys.getD k.toNat default) t) s)
    (hs : subscripted slice false (.ref l) (.int k u) = operate [.ref l, .int k u] (getItem (.ref l) (.int k u))) :
    wpAny (model prog w) A (subscriptTail value slice (.ref l) (.int k u)) Q E s := by
  obtain ⟨t, ht⟩ := strs_get hi k.toNat (by omega)
  have hl : s.heap.IsList l vs.toArray := ⟨_, (N _ hm).1, rfl, n, rfl⟩
  exact tail_any hl.typeIs slot_list_getitem.lookup (wpAny_getItem_list hl h0 (by omega) (by simpa using ht) (h t)) hs
noncomputable def roads : List Str := [Str.ofString "road", Str.ofString "ROAD", Str.ofString "Road"]
noncomputable def roadN (p : Int) : Str := roads.getD (p.fmod 3).toNat default
noncomputable def txtN (Ts : List Str) (p : Int) : Str := Ts.getD p.toNat default
noncomputable def hdrD (Ts : List Str) (p : Int) : Dat := .tuple [.str (roadN p), .str (txtN Ts p)]
noncomputable def HI (Ts : List Str) (pre : List Int) (out : List Dat) : Prop := out = pre.map (hdrD Ts)
theorem HI_start (Ts : List Str) : HI Ts [] [] := rfl
theorem HI_on {Ts : List Str} {pre : List Int} {out : List Dat} {k : Int} (h : HI Ts pre out) (hl : out.length = pre.length) : HI Ts (pre ++ [k]) (out ++ [Dat.tuple [Dat.str ([Str.ofString "road", Str.ofString "ROAD", Str.ofString "Road"].getD (k.fmod 3).toNat default), Dat.str (Ts.getD k.toNat default)]]) ∧ (out ++ [Dat.tuple [Dat.str ([Str.ofString "road", Str.ofString "ROAD", Str.ofString "Road"].getD (k.fmod 3).toNat default), Dat.str (Ts.getD k.toNat default)]]).length = (pre ++ [k]).length := by
  unfold HI at *
  subst h
  refine ⟨?_, by simp⟩
  rw [List.map_append]
  rfl
theorem fm3 (a : Int) : 0 ≤ a.fmod 3 ∧ a.fmod 3 < 3 := ⟨Int.fmod_nonneg_of_pos a (by omega), Int.fmod_lt_of_pos a (by omega)⟩
theorem road_case (a : Int) : roadN a = Str.ofString "road" ∨ roadN a = Str.ofString "ROAD" ∨ roadN a = Str.ofString "Road" := by
  obtain ⟨h0, h1⟩ := fm3 a
  unfold roadN
  rcases (by omega : (a.fmod 3).toNat = 0 ∨ (a.fmod 3).toNat = 1 ∨ (a.fmod 3).toNat = 2) with e | e | e <;> rw [e]
  · exact .inl rfl
  · exact .inr (.inl rfl)
  · exact .inr (.inr rfl)
theorem road_clean (a : Int) : cleanN (roadN a) = true := by
  rcases road_case a with e | e | e <;> rw [e] <;> decide +kernel
theorem road_len (a : Int) : (roadN a).length = 4 := by
  rcases road_case a with e | e | e <;> rw [e] <;> decide +kernel
section
variable {prog : Program} {w : World} {A : Around} {E : Value → Shared → Prop} {s : Shared} {env : Env} {h₀ : Heap} {m : Str → Option Value}
theorem kw_iter0 {news : List (Addr × Obj)} {d vw : Addr} {xk xv : Str} {body : List Stmt} {Q : Flow → Shared → Prop}
    (hh : A.handled = none) (hxk : env.kindOf xk = some .local) (hxv : env.kindOf xv = some .local)
    (hp : (env.scope.kind == .class || (env.scope.kind == .module && env.locals != env.globals)) = false)
    (hvw : ∃ ov, s.heap.get? vw = some ov ∧ ov.cls = .type "dict_items" ∧ ov.data = .fields #[.ref d]) (T : StrTab prog w s.heap d []) (F : Fr h₀ env.locals s.heap m) (N : News h₀ env.locals s.heap news)
    (hd : (∃ o, h₀.get? d = some o) ∨ ∃ o, (d, o) ∈ news)
    (done : ∀ h tk, Fr h₀ env.locals h m → News h₀ env.locals h news → Q .next { s with heap := h, toks := tk })
    (hE : PassesOwn (model prog w) A env E := by passes_own) :
    wpAny (model prog w) A (pyIter (.ref vw)) (fun it s₂ => PairLoopAt prog w A h₀ env xk xv body Q E it s₂) E s := by
  obtain ⟨lo, kvs, hdo, hf⟩ := id T
  obtain ⟨ep, hat⟩ := hdo.dictAt
  refine wpAny_pyIter_items (knd := strKind prog w) (d := d) (kvs := kvs) (ep := ep) hvw hat ?_
  intro pk pv pt x1
  have hlen : kvs.length = 0 := by have := hf.length; simpa using this.symm
  have hne : d ≠ s.heap.objs.size := Nat.ne_of_lt hat.lt_size
  have hlt : ∀ p ∈ news, p.1 ≠ s.heap.objs.size := fun p hp => Nat.ne_of_lt (Heap.lt_size (N p hp).1)
  refine kw_loop (knd := strKind prog w) (h₀ := h₀) (news := news) hh hxk hxv hp (Nat.ne_of_gt F.ns.lt) (fun e => tab_not_locals F N hd e) hne (next_is_new F) hlt (Heap.get?_push_size _ rfl) (hat.push _) (F.push _)
    (fun p hp => ⟨Heap.get?_push_of_some _ (N p hp).1, (N p hp).2⟩)
    (fun i m₁ news₁ => m₁ = m ∧ news₁ = news) ⟨rfl, rfl⟩ ?_ ?_
  · intro i k v key m₁ news₁ h₁ tk₁ own hx hkey hJ hown ha F₁ N₁
    have := (List.getElem?_eq_some_iff.mp hx).1
    omega
  · rintro h' tk m' news' F' N' ⟨rfl, rfl⟩
    exact done h' tk F' N'
end
local macro_rules | `(tactic| cell_enter) => `(tactic| (refine' code_def ?k1 ?k2 ?k3 ?k4 ?k5 ?kA ?kF ?kK ?k6 ?k7 ?k8 ?k9 ?kB ?_ ?c2 ?c3 ?c4 ?c5; (case kA => exact rfl); (case kF => exact rfl); (case kK => first | exact rfl | assumption); (case k1 => k_asm); (case k2 => k_asm); (case k3 => k_asm); (case k4 => k_asm); (case k5 => k_asm); (case k6 => k_is); (case k7 => k_is); (case k8 => first | k_room | ktr_room); (case k9 => first | exact BindsTo.of_eq rfl | exact binds_K (by k_in) rfl (by k_is) rfl rfl rfl); (case c5 => decide); (case kB => exact locs rfl); (case c2 => exact rfl); (case c3 => exact rfl); (case c4 => exact rfl); k_whole; intro g' L' h' FG' F' N' B' X' T'; (try dsimp only); (try k_lift B'); (try k_fold)))
local macro_rules | `(tactic| walk_at "subscriptTail") => `(tactic| (k_here; (with_reducible show wpAny _ _ (subscriptTail _ _ (Value.ref _) (Value.int _ _)) _ _ _); k_dflt (refine' strs_item ?k1 ?k2 ?k3 ?k4 ?k5 ?k6 ?_ ?k7; (case k1 => k_asm); (case k2 => k_mem); (case k3 => first | assumption | exact .cons _ _ (.cons _ _ (.cons _ _ .nil))); (case k4 => first | omega | exact (fm3 _).1); (case k5 => first | omega | exact (fm3 _).2); (case k6 => first | omega | exact Nat.le_of_ble_eq_true rfl); (case k7 => with_unfolding_all rfl)); intro t'))
local macro_rules | `(tactic| walk_at "exec For Tuple Call") => `(tactic| ((rename Obj.IsDictOf _ _ _ => dictLook); with_unfolding_all ((rename Fr _ _ _ _ => F'); (rename News _ _ _ _ => N'); (with_reducible apply For_pair_unrF); (case _F => with_unfolding_all exact F'); (case hs => (intro _; with_unfolding_all rfl)); (refine MethodCall_ ?_); (refine ld F' (by rfl) ?_); (refine getMethod_tab PySem.F.slot_dict_items PySem.F.type_dict_items (by first | assumption | exact TabAt.ofFr (by assumption) (by assumption) | exact TabAt.ofNews (by assumption) (by first | exact .head _ | exact .tail _ (.head _) | exact .tail _ (.tail _ (.head _))) (by assumption) (by assumption) (by assumption)) ?_); (refine callWith_method0 ?_); (refine call_items_tab (by first | assumption | exact TabAt.ofFr (by assumption) (by assumption) | exact TabAt.ofNews (by assumption) (by first | exact .head _ | exact .tail _ (.head _) | exact .tail _ (.tail _ (.head _))) (by assumption) (by assumption) (by assumption)) F' N' ?_); intro _ _ hv5' F5' N5'; (refine kw_iter0 (by rfl) (by rfl) (by rfl) (by rfl) hv5' (by first | assumption | exact TabAt.ofFr (by assumption) (by assumption) | exact TabAt.ofNews (by assumption) (by first | exact .head _ | exact .tail _ (.head _) | exact .tail _ (.tail _ (.head _))) (by assumption) (by assumption) (by assumption)) F5' (news_tail N5') (by first | exact .inr ⟨_, .head _⟩ | exact .inr ⟨_, .tail _ (.head _)⟩ | exact .inr ⟨_, .tail _ (.tail _ (.head _))⟩ | exact .inr ⟨_, .tail _ (.tail _ (.tail _ (.head _)))⟩) ?_); clear N5' F'; intro h' tk' F' N'; (try dsimp only))))
local macro_rules | `(tactic| walk_at "call builtin:str.join") => `(tactic| (k_here; k_dflt (refine' join_one ?k1 ?k2 ?k3 ?k4 ?_; (case k1 => k_asm); (case k2 => k_mem); (case k3 => decide +kernel); (case k4 => first | assumption | omega)); intro t' k'))
local macro_rules | `(tactic| walk_at "exec For Tuple Name cons nil") => `(tactic| (k_here; k_dflt (refine' for_empty ?k0 ?k1 ?k2 ?k3 ?k4 ?_ ?k5; (case k4 => (intro Q9 hQ9; refine' ld ?q1 ?q2 hQ9; (case q1 => k_asm); (case q2 => exact rfl))); (case k0 => rfl); (case k1 => k_asm); (case k2 => k_asm); (case k3 => k_mem); (case k5 => (intro _; rfl))); intro h' F' N'))
local macro_rules | `(tactic| walk_at "getMethod ref") => `(tactic| (k_here; k_dflt (first | (with_reducible show wpAny _ _ (getMethod (Value.ref 83) _ _) _ _ _); refine' gm83 ?k1 ?k2 ?_; (case k1 => k_asm); (case k2 => k_asm) | (with_reducible show wpAny _ _ (getMethod (Value.ref 88) _ _) _ _ _); refine' gm88 ?k1 ?k2 ?_; (case k1 => k_asm); (case k2 => k_asm))))
local macro_rules | `(tactic| walk_at "call builtin:re.Pattern.search") => `(tactic| (k_here; k_dflt (first | (with_reducible show wpAny _ _ (call _ [Value.ref 83, Value.str _ _]) _ _ _); refine' search83 ?k1 ?k2 ?k3 ?k4 ?_; (case k1 => k_asm); (case k2 => k_asm); (case k3 => first | assumption | omega | decide +kernel); (case k4 => first | assumption | decide +kernel) | (with_reducible show wpAny _ _ (call _ [Value.ref 88, Value.str _ _]) _ _ _); refine' search88 ?k1 ?k2 ?k3 ?k4 ?_; (case k1 => k_asm); (case k2 => k_asm); (case k3 => first | assumption | omega | decide +kernel); (case k4 => first | assumption | decide +kernel))))
set_option maxRecDepth 100000 in
set_option maxHeartbeats 8000000 in
theorem laid_for (w : World) (mean : ExcName → Option Value) (mg mb : Str → Option Value) (dp un : Nat) (gd : Option (List Code)) (cn : Str) (csc : Scope) (L a : Addr) (ccd : Value) (cl : List (Str × Addr)) (outer : List Env) (base g' : Heap) (L' : Addr) (h9 : Heap) (tk9 : Nat) (s : Shared) (Q : Flow → Shared → Prop) (E : Value → Shared → Prop)
    (m : Str → Option Value) (news : List (Addr × Obj)) (X D H OR TX : Addr) (tk0 : Tok) (vos vts : List Value) (n1 n2 : Nat) (Ts : List Str) (os : List Int)
    (B' : Below (ktrTop 302 7 gd cn csc L a ccd cl outer) base (envX cn csc L a ccd cl :: outer) g') (X' : (Mine.hd.heap_39 w.params).In g') (T' : Top topProg looseG mean mg mb g')
    (F' : Fr g' L' h9 (fun y => if y = Str.ofString "table" then some (.ref X) else if y = Str.ofString "order" then some (.ref OR) else if y = Str.ofString "texts" then some (.ref TX) else m y))
    (N' : News g' L' h9 ((X, instObj 217 D) :: (D, dictOf [{ hash := PyData.keyHash w.params (Str.ofString "_headers"), key := Value.str (Str.ofString "_headers") tk0, val := Value.ref H }] 1) :: (H, listOf #[] 0) :: (OR, listOf vos.toArray n2) :: (TX, listOf vts.toArray n1) :: news))
    (hlt : @LT.lt Nat _ OR H ∧ @LT.lt Nat _ TX H ∧ AllLt H news) (hHD : @LT.lt Nat _ H D) (hDX : @LT.lt Nat _ D X)
    (hTs : StrsAre vts Ts) (hos : IntsAre vos os) (hlT : Ts.length ≤ 8) (hlo : os.length ≤ 8) (hin : ∀ p ∈ os, 0 ≤ p ∧ p < (Ts.length : Int)) (hcl : ∀ p : Int, 0 ≤ p → p < (Ts.length : Int) → cleanV (txtN Ts p) = true ∧ (txtN Ts p).length ≤ 40)
    (hq : ∀ vhs k tl h tk (m' : Str → Option Value), OwnOff tl (H :: X :: D :: OR :: TX :: List.map Prod.fst news) → DatAll ((X, instObj 217 D) :: (D, dictOf [{ hash := PyData.keyHash w.params (Str.ofString "_headers"), key := Value.str (Str.ofString "_headers") tk0, val := Value.ref H }] 1) :: (OR, listOf vos.toArray n2) :: (TX, listOf vts.toArray n1) :: (news ++ tl)) vhs (os.map (hdrD Ts)) → Fr g' L' h m' → m' (Str.ofString "table") = some (.ref X) → m' (Str.ofString "order") = some (.ref OR) →
      News g' L' h ((H, listOf vhs.toArray k) :: (X, instObj 217 D) :: (D, dictOf [{ hash := PyData.keyHash w.params (Str.ofString "_headers"), key := Value.str (Str.ofString "_headers") tk0, val := Value.ref H }] 1) :: (OR, listOf vos.toArray n2) :: (TX, listOf vts.toArray n1) :: (news ++ tl)) → Q .next { s with heap := h, toks := tk }) :
    wpAny (model PySem.Challenge.rw_pe0249_01.row.prog w) ((ktrTop 302 7 gd cn csc L a ccd cl outer).deeper (envOf (Str.ofString "_law_laid") (fnScope 21) L' 242 (Value.ref 241))) (exec (stAt 21 4) (envOf (Str.ofString "_law_laid") (fnScope 21) L' 242 (Value.ref 241)))
      Q (fun e s' => wpAny (model PySem.Challenge.rw_pe0249_01.row.prog w) ((ktrTop 302 7 gd cn csc L a ccd cl outer).deeper (envOf (Str.ofString "_law_laid") (fnScope 21) L' 242 (Value.ref 241))) (leaving (envOf (Str.ofString "_law_laid") (fnScope 21) L' 242 (Value.ref 241)) e) (fun _ s'' => E e s'') (fun e' s'' => E e' s'') s') { s with heap := h9, toks := tk9 } := by
  have : Mine.hd.heap_39 w.params = Mine.hd.heap_39 w.params ∧ PySem.Challenge.rw_pe0249_01 = PySem.Challenge.rw_pe0249_01 := by
    k_fill
    exact ⟨rfl, rfl⟩
  clear this
  k_with_none
  w_top off
  with_unfolding_all show wpAny _ _ (exec (Stmt.For _ _ _ _ _) _) _ _ _
  have hsc : fnScope 21 = fnScope 21 := rfl
  conv at hsc => rhs; whnf
  rw [hsc]
  clear hsc
  k_with "table" => skip
  k_with "state" => first | exact ⟨HI_start _, rfl⟩ | exact HI_on (by assumption) (by assumption)
  (try k_fold)
  repeat' (first | (k_unfold; (try dsimp only)) | ((fail_if_success (with_reducible show wpAny _ _ (pyIter _) _ _ _)); walk1) | ((fail_if_success (with_reducible show wpAny _ _ (pyIter _) _ _ _)); dsimp only; walk1))
  k_dat (fun pre out => HI Ts pre out ∧ out.length = pre.length) "table._headers*"
  · have hb9 := hin kN kMem
    obtain ⟨hc9, hd9⟩ := hcl kN hb9.1 hb9.2
    have hr9 := road_clean kN
    have hl9 := road_len kN
    unfold txtN at hc9 hd9
    unfold roadN roads at hr9 hl9
    k_steps
  · (rename HI _ _ _ => hI9)
    unfold HI at hI9
    subst hI9
    exact hq _ _ _ _ _ _ kO3 kFacts kFr (by with_unfolding_all rfl) (by with_unfolding_all rfl) kNews
end Mine

end
/-! part Laid1 -/
section
open PySem PySem.W PyProof.Rows PySem.Calls PySem.Spec
namespace Mine

/-- the places drawn so far and those left -/
noncomputable def LI (n k : Nat) (left order : List Int) : Prop := (order ++ left).Perm (rangeKs 0 n) ∧ order.length = min k n
theorem LI_start (n : Nat) : LI n 0 (rangeKs 0 ((n : Int) - 0).toNat) [] := by
  have e : ((n : Int) - 0).toNat = n := by omega
  rw [e]
  exact ⟨List.Perm.refl _, by simp⟩
theorem LI_skip {n : Nat} {pre left order : List Int} {x : Int} (h : LI n pre.length left order) (hl : left.length + order.length = n) (e : decide (left = []) = true) : LI n (pre ++ [x]).length left order := by
  have e' := of_decide_eq_true e
  subst e'
  obtain ⟨h1, h2⟩ := h
  refine ⟨h1, ?_⟩
  simp only [List.length_nil, List.length_append, List.length_cons] at *
  omega
theorem perm_erase : ∀ (l : List Int) (k : Nat), k < l.length → (l.getD k 0 :: l.eraseIdx k).Perm l
  | [], _, h => by simp at h
  | x :: r, 0, _ => List.Perm.refl _
  | x :: r, k + 1, h => (List.Perm.swap x _ _).trans ((perm_erase r k (by simpa using h)).cons x)
theorem LI_pop {n : Nat} {pre left order : List Int} {x j : Int} (h : LI n pre.length left order) (hl : left.length + order.length = n) (h0 : 0 ≤ j) (h1 : j < left.length) :
    LI n (pre ++ [x]).length (left.eraseIdx j.toNat) (order ++ [left.getD j.toNat 0]) ∧ (left.eraseIdx j.toNat).length + (order ++ [left.getD j.toNat 0]).length = n := by
  obtain ⟨hp, h2⟩ := h
  have hj : j.toNat < left.length := by omega
  refine ⟨⟨?_, ?_⟩, ?_⟩
  · rw [List.append_assoc]
    exact ((perm_erase left _ hj).append_left order).trans hp
  · simp only [List.length_append, List.length_cons, List.length_nil] at *
    omega
  · rw [List.length_eraseIdx_of_lt hj]
    simp only [List.length_append, List.length_cons, List.length_nil] at *
    omega
theorem LI_end {n k : Nat} {left order : List Int} (h : LI n k left order) (hl : left.length + order.length = n) (hk : n ≤ k) : order.Perm (rangeKs 0 n) := by
  obtain ⟨h1, h2⟩ := h
  have : left = [] := List.eq_nil_of_length_eq_zero (by omega)
  subst this
  simpa using h1
theorem cut_at : ∀ (us : List Value) (k : Nat) (y : Value), us[k]? = some y → kl_cut us k = some (us.take k, y, us.drop (k + 1))
  | [], _, _, h => by simp at h
  | x :: r, 0, y, h => by
    have : x = y := by simpa using h
    subst this
    rfl
  | x :: r, k + 1, y, h => by
    have e := cut_at r k y (by simpa using h)
    simp [kl_cut, e]
theorem ints_erase : ∀ {us : List Value} {l : List Int}, IntsAre us l → ∀ k : Nat, IntsAre (us.eraseIdx k) (l.eraseIdx k)
  | _, _, .nil, _ => .nil
  | _, _, .cons _ _ h, 0 => h
  | _, _, .cons n t h, k + 1 => .cons n t (ints_erase h k)
theorem ints_pop {prog : Program} {w : World} {A : Around} {E : Value → Shared → Prop} {s : Shared} {h₀ : Heap} {L D : Addr} {m : Str → Option Value} {news news' : List (Addr × Obj)} {n : Nat} {us : List Value} {l : List Int} {i : Int} {u : Tok} {Q : Value → Shared → Prop}
    (F : Fr h₀ L s.heap m) (N : News h₀ L s.heap news) (U : Upd D (listOf us.toArray n) (listOf (us.eraseIdx i.toNat).toArray (n + 1)) news news') (hi : IntsAre us l) (h0 : 0 ≤ i) (h1 : i < l.length) (hz : l.length ≤ 40)
    (h : ∀ h' t, Fr h₀ L h' m → News h₀ L h' news' → IntsAre (us.eraseIdx i.toNat) (l.eraseIdx i.toNat) → Q (.int (l.getD i.toNat 0) t) { s with heap := h' }) :
    wpAny (model prog w) A (call (.builtin "list.pop") [.ref D, .int i u]) Q E s := by
  have hl := hi.length
  have hk : i.toNat < l.length := by omega
  obtain ⟨t, ht⟩ := hi.get i.toNat (l[i.toNat]'hk) (List.getElem?_eq_getElem hk)
  have eg : l.getD i.toNat 0 = l[i.toNat]'hk := by rw [List.getD_eq_getElem?_getD, List.getElem?_eq_getElem hk]; rfl
  refine kl_popAt (its := us.toArray) (n := n) (news' := news') (k := i.toNat) (p := us.take i.toNat) (q := us.drop (i.toNat + 1)) (y := .int (l[i.toNat]'hk) t) F N ?_ ?_ ?_ ?_ ?_ fun h' F' N' => ?_
  · unfold Builtin.List.listFitsIndex
    rw [Bool.and_eq_true, decide_eq_true_eq, decide_eq_true_eq]
    omega
  · unfold seqIndex?
    rw [List.size_toArray, hl]
    simp only [show ¬ (i < 0) by omega, if_false]
    first
      | (rw [if_pos (by omega)])
      | (split <;> first | rfl | omega)
      | simp [h0, h1]
  · have := cut_at us i.toNat _ ht
    simpa using this
  · rw [← List.eraseIdx_eq_take_drop_succ]
    exact U
  · rw [PySem.sizeLine_eq]
    simp only [List.toList_toArray] 
    omega
  · have := h h' t F' N' (ints_erase hi i.toNat)
    rw [eg] at this
    exact this
theorem fm0 {a b : Int} (h : b ≠ 0) (h0 : 0 ≤ b) : 0 ≤ a.fmod b := Int.fmod_nonneg_of_pos a (by omega)
theorem fm1 {a b : Int} (h : b ≠ 0) (h0 : 0 ≤ b) : a.fmod b < b := Int.fmod_lt_of_pos a (by omega)

theorem lperm {x : Addr} {a b c o e t r : Addr} {oa ob oc oe or : Obj} {news : List (Addr × Obj)} (h : @LT.lt Nat _ a x ∧ @LT.lt Nat _ b x ∧ @LT.lt Nat _ c x ∧ @LT.lt Nat _ o x ∧ @LT.lt Nat _ e x ∧ @LT.lt Nat _ t x ∧ @LT.lt Nat _ r x ∧ AllLt x news) : @LT.lt Nat _ o x ∧ @LT.lt Nat _ t x ∧ AllLt x ((a, oa) :: (b, ob) :: (c, oc) :: (e, oe) :: (r, or) :: news) :=
  ⟨h.2.2.2.1, h.2.2.2.2.2.1, h.1, h.2.1, h.2.2.1, h.2.2.2.2.1, h.2.2.2.2.2.2.1, h.2.2.2.2.2.2.2⟩
theorem fr_re2 {h₀ h : Heap} {L : Addr} {m : Str → Option Value} {x y : Str} {v u : Value} (F : Fr h₀ L h m) (hx : m x = some v) (hy : m y = some u) : Fr h₀ L h (fun z => if z = x then some v else if z = y then some u else m z) := by
  have e : (fun z => if z = x then some v else if z = y then some u else m z) = m := by
    funext z
    by_cases h1 : z = x
    · rw [if_pos h1, h1, hx]
    · rw [if_neg h1]
      by_cases h2 : z = y
      · rw [if_pos h2, h2, hy]
      · rw [if_neg h2]
  rw [e]
  exact F
theorem away {x TX DR : Addr} {news : List (Addr × Obj)} (h : @LT.lt Nat _ TX x ∧ @LT.lt Nat _ DR x ∧ AllLt x news) : ∀ b ∈ TX :: DR :: news.map (·.1), x ≠ b := by
  intro b hb e
  subst e
  rcases List.mem_cons.mp hb with e | hb
  · exact Nat.ne_of_lt h.1 e.symm
  rcases List.mem_cons.mp hb with e | hb
  · exact Nat.ne_of_lt h.2.1 e.symm
  obtain ⟨q, hq, e⟩ := List.mem_map.mp hb
  exact al0 h.2.2 q hq e
theorem allLt_up {x y : Nat} (hxy : x < y) : ∀ {l : List (Addr × Obj)}, AllLt x l → AllLt y l
  | [], _ => True.intro
  | _ :: _, h => ⟨Nat.lt_trans h.1 hxy, allLt_up hxy h.2⟩
theorem own_cons {p : Addr × Obj} {l : List (Addr × Obj)} {A : List Addr} (h : ∀ b ∈ A, p.1 ≠ b) (hl : OwnOff l A) : OwnOff (p :: l) A := fun q hq b hb => by
  rcases List.mem_cons.mp hq with e | hq
  · rw [e]; exact h b hb
  · exact hl q hq b hb
theorem own_nil {A : List Addr} : OwnOff [] A := fun _ hq => nomatch hq
theorem allLt_appL {x : Nat} : ∀ {l r : List (Addr × Obj)}, AllLt x (l ++ r) → AllLt x l
  | [], _, _ => True.intro
  | _ :: _, _, h => ⟨h.1, allLt_appL h.2⟩
local macro_rules | `(tactic| walk_at "mine:mem") => `(tactic| ((try simp only [List.cons_append, List.append_assoc]); repeat' (first | exact List.forall_mem_nil _ | (refine List.forall_mem_cons.mpr ⟨?_, ?_⟩) | (refine List.forall_mem_append.mpr ⟨?_, ?_⟩) | (with_reducible (intro p9 h9; (repeat (first | exact h9 | exact List.mem_append_left _ h9 | exact List.mem_append_right _ h9 | refine List.mem_cons_of_mem _ ?_ | refine List.mem_append_right _ ?_)); done)) | (with_reducible ((repeat (first | exact List.mem_cons_self | assumption | refine List.mem_cons_of_mem _ ?_ | refine List.mem_append_right _ ?_)); done)))))
theorem laid_fin {h₀ h : Heap} {L R X D H OR TX DR d1 d2 d3 d4 : Addr} {oR oH oX oD oO oT oDR o1 o2 o3 o4 : Obj} {tl news : List (Addr × Obj)} {vs : List Value} {ds : List Dat}
    (N : News h₀ L h ((R, oR) :: (H, oH) :: (X, oX) :: (D, oD) :: (OR, oO) :: (TX, oT) :: ((d1, o1) :: (d2, o2) :: (d3, o3) :: (d4, o4) :: (DR, oDR) :: news ++ tl)))
    (hda : DatAll ((X, oX) :: (D, oD) :: (OR, oO) :: (TX, oT) :: ((d1, o1) :: (d2, o2) :: (d3, o3) :: (d4, o4) :: (DR, oDR) :: news ++ tl)) vs ds)
    (hR : @LT.lt Nat _ H R ∧ @LT.lt Nat _ X R ∧ @LT.lt Nat _ D R ∧ @LT.lt Nat _ OR R ∧ @LT.lt Nat _ TX R ∧ AllLt R ((d1, o1) :: (d2, o2) :: (d3, o3) :: (d4, o4) :: (DR, oDR) :: news ++ tl))
    (hH : @LT.lt Nat _ d1 H ∧ @LT.lt Nat _ d2 H ∧ @LT.lt Nat _ d3 H ∧ @LT.lt Nat _ OR H ∧ @LT.lt Nat _ d4 H ∧ @LT.lt Nat _ TX H ∧ @LT.lt Nat _ DR H ∧ AllLt H news)
    (hD : @LT.lt Nat _ H D ∧ @LT.lt Nat _ d1 D ∧ @LT.lt Nat _ d2 D ∧ @LT.lt Nat _ d3 D ∧ @LT.lt Nat _ OR D ∧ @LT.lt Nat _ d4 D ∧ @LT.lt Nat _ TX D ∧ @LT.lt Nat _ DR D ∧ AllLt D news)
    (hX : @LT.lt Nat _ D X)
    (hOR : @LT.lt Nat _ d4 OR ∧ @LT.lt Nat _ TX OR ∧ @LT.lt Nat _ DR OR ∧ AllLt OR news)
    (h1 : @LT.lt Nat _ d2 d1 ∧ @LT.lt Nat _ d3 d1 ∧ @LT.lt Nat _ OR d1 ∧ @LT.lt Nat _ d4 d1 ∧ @LT.lt Nat _ TX d1 ∧ @LT.lt Nat _ DR d1 ∧ AllLt d1 news)
    (h2 : @LT.lt Nat _ d3 d2 ∧ @LT.lt Nat _ OR d2 ∧ @LT.lt Nat _ d4 d2 ∧ @LT.lt Nat _ TX d2 ∧ @LT.lt Nat _ DR d2 ∧ AllLt d2 news)
    (h3 : @LT.lt Nat _ OR d3 ∧ @LT.lt Nat _ d4 d3 ∧ @LT.lt Nat _ TX d3 ∧ @LT.lt Nat _ DR d3 ∧ AllLt d3 news)
    (h4 : @LT.lt Nat _ TX d4 ∧ @LT.lt Nat _ DR d4 ∧ AllLt d4 news)
    (hof : OwnOff tl (H :: X :: D :: OR :: TX :: List.map Prod.fst ((d1, o1) :: (d2, o2) :: (d3, o3) :: (d4, o4) :: (DR, oDR) :: news))) :
    ∃ own, DatAll ((X, oX) :: (D, oD) :: (OR, oO) :: (own ++ (TX, oT) :: (DR, oDR) :: news)) vs ds ∧ News h₀ L h ((R, oR) :: (H, oH) :: (X, oX) :: (D, oD) :: (OR, oO) :: (own ++ (TX, oT) :: (DR, oDR) :: news)) ∧
      OwnOff [(R, oR), (H, oH), (X, oX), (D, oD), (OR, oO)] (TX :: DR :: news.map (·.1)) ∧ OwnOff own (TX :: DR :: news.map (·.1)) := by
  refine ⟨(d1, o1) :: (d2, o2) :: (d3, o3) :: (d4, o4) :: tl, DatAll.mono (by walk_at "mine:mem") hda, fun p hp => N p ((by walk_at "mine:mem" : ∀ p ∈ (R, oR) :: (H, oH) :: (X, oX) :: (D, oD) :: (OR, oO) :: ((d1, o1) :: (d2, o2) :: (d3, o3) :: (d4, o4) :: tl ++ (TX, oT) :: (DR, oDR) :: news), p ∈ (R, oR) :: (H, oH) :: (X, oX) :: (D, oD) :: (OR, oO) :: (TX, oT) :: ((d1, o1) :: (d2, o2) :: (d3, o3) :: (d4, o4) :: (DR, oDR) :: news ++ tl)) p hp), ?_, ?_⟩
  · have aD : @LT.lt Nat _ TX D ∧ @LT.lt Nat _ DR D ∧ AllLt D news := ⟨hD.2.2.2.2.2.2.1, hD.2.2.2.2.2.2.2.1, hD.2.2.2.2.2.2.2.2⟩
    have rr := hR.2.2.2.2.2.2.2.2.2
    refine own_cons (away ⟨hR.2.2.2.2.1, rr.1, allLt_appL rr.2⟩) (own_cons (away ⟨hH.2.2.2.2.2.1, hH.2.2.2.2.2.2.1, hH.2.2.2.2.2.2.2⟩) (own_cons (away ⟨Nat.lt_trans aD.1 hX, Nat.lt_trans aD.2.1 hX, allLt_up hX aD.2.2⟩) (own_cons (away aD) (own_cons (away hOR.2) own_nil))))
  · refine own_cons (away h1.2.2.2.2) (own_cons (away h2.2.2.2) (own_cons (away h3.2.2) (own_cons (away h4) ?_)))
    refine fun p hp b hb => hof p hp b ?_
    simp only [List.mem_cons, List.map_cons] at hb ⊢
    rcases hb with e | e | e <;> simp [e]
theorem and1 {a b : Prop} (h : a ∧ b) : a := h.1
theorem rng_in {l : List Int} {n : Nat} (h : l.Perm (rangeKs 0 n)) {p : Int} (hp : p ∈ l) : 0 ≤ p ∧ p < (n : Int) := by
  have := mem_rangeKs (h.mem_iff.mp hp)
  omega

local macro_rules | `(tactic| walk_at "mine:mem") => `(tactic| ((try simp only [List.cons_append, List.append_assoc]); repeat' (first | exact List.forall_mem_nil _ | (refine List.forall_mem_cons.mpr ⟨?_, ?_⟩) | (refine List.forall_mem_append.mpr ⟨?_, ?_⟩) | (with_reducible (intro p9 h9; (repeat (first | exact h9 | exact List.mem_append_left _ h9 | exact List.mem_append_right _ h9 | refine List.mem_cons_of_mem _ ?_ | refine List.mem_append_right _ ?_)); done)) | (with_reducible ((repeat (first | exact List.mem_cons_self | assumption | refine List.mem_cons_of_mem _ ?_ | refine List.mem_append_right _ ?_)); done)))))
theorem nsub0 {α : Type} {a b c d1 d2 d3 e d4 t dr : α} {news : List α} : ∀ p ∈ a :: b :: c :: e :: t :: (d1 :: d2 :: d3 :: d4 :: dr :: news), p ∈ a :: b :: c :: d1 :: d2 :: d3 :: e :: d4 :: t :: dr :: news := by walk_at "mine:mem"
theorem nsub1 {α : Type} {a b c d1 d2 d3 e d4 t dr : α} {news : List α} {p : α} (h : p ∈ a :: b :: c :: e :: t :: (d1 :: d2 :: d3 :: d4 :: dr :: news)) : p ∈ a :: b :: c :: d1 :: d2 :: d3 :: e :: d4 :: t :: dr :: news := nsub0 p h
local macro_rules | `(tactic| cell_enter) => `(tactic| (refine' code_def ?k1 ?k2 ?k3 ?k4 ?k5 ?kA ?kF ?kK ?k6 ?k7 ?k8 ?k9 ?kB ?_ ?c2 ?c3 ?c4 ?c5; (case kA => exact rfl); (case kF => exact rfl); (case kK => first | exact rfl | assumption); (case k1 => k_asm); (case k2 => k_asm); (case k3 => k_asm); (case k4 => k_asm); (case k5 => k_asm); (case k6 => k_is); (case k7 => k_is); (case k8 => first | k_room | ktr_room); (case k9 => first | exact BindsTo.of_eq rfl | exact binds_K (by k_in) rfl (by k_is) rfl rfl rfl); (case c5 => decide); (case kB => exact locs rfl); (case c2 => exact rfl); (case c3 => exact rfl); (case c4 => exact rfl); k_whole; intro g' L' h' FG' F' N' B' X' T'; (try dsimp only); (try k_lift B'); (try k_fold)))
local macro_rules | `(tactic| walk_at "exec For Name BinOp cons nil") => `(tactic| (k_here; (rename Fr _ _ _ _ => lF'); (with_unfolding_all refine' For_invVF lF' ?k1 ?k2 ?_; (case k1 => exact rfl); (case k2 => exact rfl); k_whole)))
local macro_rules | `(tactic| walk_at "call builtin:list.pop") => `(tactic| (k_here; (with_reducible show wpAny _ _ (call (Value.builtin _) [Value.ref _, Value.int _ _]) _ _ _); k_dflt (refine' ints_pop ?F ?N ?U ?i ?l0 ?l ?z ?_; (case F => k_asm); (case N => k_asm); (case U => k_upd); (case i => with_reducible assumption); (case l0 => exact fm0 (by assumption) (by omega)); (case l => exact fm1 (by assumption) (by omega)); (case z => omega)); (intro h' t' F' N' hI'; (try dsimp only [List.nil_append, List.cons_append] at N'))))
local macro_rules | `(tactic| walk_at "call builtin:str.join") => `(tactic| (k_here; k_dflt (refine' join_one ?k1 ?k2 ?k3 ?k4 ?_; (case k1 => k_asm); (case k2 => k_mem); (case k3 => decide +kernel); (case k4 => first | assumption | omega)); intro t' k'))
local macro_rules | `(tactic| walk_at "exec For Tuple Name cons nil") => `(tactic| (k_here; k_dflt (refine' for_empty ?k0 ?k1 ?k2 ?k3 ?k4 ?_ ?k5; (case k4 => (intro Q9 hQ9; refine' ld ?q1 ?q2 hQ9; (case q1 => k_asm); (case q2 => exact rfl))); (case k0 => rfl); (case k1 => k_asm); (case k2 => k_asm); (case k3 => k_mem); (case k5 => (intro _; rfl))); intro h' F' N'))
local macro_rules | `(tactic| walk_at "getMethod ref") => `(tactic| (k_here; k_dflt (first | (with_reducible show wpAny _ _ (getMethod (Value.ref 83) _ _) _ _ _); refine' gm83 ?k1 ?k2 ?_; (case k1 => k_asm); (case k2 => k_asm) | (with_reducible show wpAny _ _ (getMethod (Value.ref 88) _ _) _ _ _); refine' gm88 ?k1 ?k2 ?_; (case k1 => k_asm); (case k2 => k_asm))))
local macro_rules | `(tactic| walk_at "call builtin:re.Pattern.search") => `(tactic| (k_here; k_dflt (first | (with_reducible show wpAny _ _ (call _ [Value.ref 83, Value.str _ _]) _ _ _); refine' search83 ?k1 ?k2 ?k3 ?k4 ?_; (case k1 => k_asm); (case k2 => k_asm); (case k3 => first | assumption | omega | decide +kernel); (case k4 => first | assumption | decide +kernel) | (with_reducible show wpAny _ _ (call _ [Value.ref 88, Value.str _ _]) _ _ _); refine' search88 ?k1 ?k2 ?k3 ?k4 ?_; (case k1 => k_asm); (case k2 => k_asm); (case k3 => first | assumption | omega | decide +kernel); (case k4 => first | assumption | decide +kernel))))
set_option maxRecDepth 100000 in
set_option maxHeartbeats 8000000 in
theorem laid_call (w : World) {mean : ExcName → Option Value} {mg mb : Str → Option Value} {gd : Option (List Code)} {cn : Str} {csc : Scope} {aa : Addr} {ccd : Value} {cl : List (Str × Addr)} {outer : List Env} {A₀ : Around} {base h₀ : Heap} {L : Addr} {m : Str → Option Value} {s : Shared} {Q E : Value → Shared → Prop}
    {news : List (Addr × Obj)}
    {TX DR : Addr} {vts vds : List Value} {n1 n2 : Nat} {Ts : List Str} {ds : List Int}
    (B₀ : Below A₀ base outer h₀) (F₀ : Fr h₀ L s.heap m) (X₀ : (Mine.hd.heap_39 w.params).In h₀) (N₀ : News h₀ L s.heap ((TX, listOf vts.toArray n1) :: (DR, listOf vds.toArray n2) :: news)) (T₀ : Top topProg looseG mean mg mb h₀) (hkind : csc.kind = ScopeKind.function)
    (hTs : StrsAre vts Ts) (hds : IntsAre vds ds) (hlT : Ts.length ≤ 8) (hld : ds.length ≤ 9)
    (hcl : ∀ p : Int, 0 ≤ p → p < (Ts.length : Int) → cleanV (txtN Ts p) = true ∧ (txtN Ts p).length ≤ 40)
    (hret : ∀ (R X D H OR : Addr) (tk0 : Tok) (vos vhs : List Value) (k n : Nat) (os : List Int) (own : List (Addr × Obj)) (h' : Heap) (tk' : Nat), os.Perm (rangeKs 0 Ts.length) → IntsAre vos os →
      DatAll ((X, instObj 217 D) :: (D, dictOf [{ hash := PyData.keyHash w.params (Str.ofString "_headers"), key := Value.str (Str.ofString "_headers") tk0, val := Value.ref H }] 1) :: (OR, listOf vos.toArray n) :: (own ++ (TX, listOf vts.toArray n1) :: (DR, listOf vds.toArray n2) :: news)) vhs (os.map (hdrD Ts)) →
      Fr h₀ L h' m → News h₀ L h' ((R, { cls := Value.type "tuple", data := Data.seq #[Value.ref X, Value.ref OR] }) :: (H, listOf vhs.toArray k) :: (X, instObj 217 D) :: (D, dictOf [{ hash := PyData.keyHash w.params (Str.ofString "_headers"), key := Value.str (Str.ofString "_headers") tk0, val := Value.ref H }] 1) :: (OR, listOf vos.toArray n) :: (own ++ (TX, listOf vts.toArray n1) :: (DR, listOf vds.toArray n2) :: news)) →
      OwnOff [(R, { cls := Value.type "tuple", data := Data.seq #[Value.ref X, Value.ref OR] }), (H, listOf vhs.toArray k), (X, instObj 217 D), (D, dictOf [{ hash := PyData.keyHash w.params (Str.ofString "_headers"), key := Value.str (Str.ofString "_headers") tk0, val := Value.ref H }] 1), (OR, listOf vos.toArray n)] (TX :: DR :: news.map (·.1)) → OwnOff own (TX :: DR :: news.map (·.1)) →
      Q (.ref R) { s with heap := h', toks := tk' }) :
    wpAny (model PySem.Challenge.rw_pe0249_01.row.prog w) (ktrTop 302 7 gd cn csc L aa ccd cl outer) (call (.ref 242) [.ref TX, .ref DR]) Q E s := by
  have : Mine.hd.heap_39 w.params = Mine.hd.heap_39 w.params ∧ PySem.Challenge.rw_pe0249_01 = PySem.Challenge.rw_pe0249_01 := by
    k_fill
    exact ⟨rfl, rfl⟩
  clear this
  k_with_none
  w_top off
  refine wpAny_call ?_
  k_dflt cell_enter
  k_with "state" => (first | exact ⟨LI_start _, by simp [rangeKs_length]⟩ | exact ⟨LI_skip (by assumption) (by assumption) (by assumption), by assumption⟩ | exact LI_pop (by assumption) (by assumption) (fm0 (by assumption) (by omega)) (fm1 (by assumption) (by omega)))
  repeat' (first | (k_unfold; (try dsimp only)) | ((fail_if_success (with_reducible show wpAny _ _ (pyIter _) _ _ _)); walk1) | ((fail_if_success (with_reducible show wpAny _ _ (pyIter _) _ _ _)); dsimp only; walk1))
  k_state (fun pre left order => LI Ts.length pre.length left order ∧ left.length + order.length = Ts.length) "left" "order"
  repeat' (first | (k_unfold; (try dsimp only)) | ((fail_if_success (with_reducible show wpAny _ _ (exec (Stmt.For (Expr.Name _ _) _ _ _ _) _) _ _ _)); (first | walk1 | (dsimp only; walk1))))
  · exfalso
    exact of_decide_eq_false (by assumption) (List.eq_nil_of_length_eq_zero (by omega))
  (rename LI _ _ _ _ => hLI9)
  have hperm := LI_end hLI9 (by assumption) (by rw [List.length_append]; omega)
  (rename Fr _ _ _ _ => lF')
  (rename News _ _ _ _ => lN')
  refine laid_for w mean mg mb 0 0 gd cn csc L aa ccd cl outer base _ _ _ _ s _ E _ _ _ _ _ _ _ _ _ _ _ _ Ts _ (by assumption) (by assumption) (by assumption) (fr_re (fr_re (fr_re lF' (x := Str.ofString "texts") (by with_unfolding_all rfl)) (x := Str.ofString "order") (by with_unfolding_all rfl)) (x := Str.ofString "table") (by with_unfolding_all rfl)) (fun p hp => lN' p (nsub1 hp)) (lperm (by assumption)) (and1 (by assumption)) (by assumption) (by assumption) (by assumption) (by omega) (by rw [hperm.length_eq, rangeKs_length]; omega) (fun p hp => rng_in hperm hp) hcl ?_
  intro vhs k9 tl9 h9 tk9 m9 hof9 hda9 F9 e9 e9' N9
  clear lF' lN'
  have F10 := fr_re2 F9 e9 e9'
  clear F9 e9 e9'
  (try dsimp only)
  (try k_fold)
  repeat' (first | (k_unfold; (try dsimp only)) | (k_end; wrow_close) | walk1 | (dsimp only; walk1) | (leave1; walk_say "STEP leave1"; try dsimp only))
  (rename News _ _ _ _ => lN')
  obtain ⟨own9, a1, a2, a3, a4⟩ := laid_fin lN' hda9 (by assumption) (by assumption) (by assumption) (by assumption) (by assumption) (by assumption) (by assumption) (by assumption) (by assumption) hof9
  exact hret _ _ _ _ _ _ _ _ _ _ _ own9 _ _ hperm (by assumption) a1 (by assumption) a2 a3 a4
end Mine

end
/-! part Comp1 -/
section
open PySem PySem.W PyProof.Rows PySem.Calls PySem.Spec PyProof.V
set_option maxRecDepth 100000
namespace Mine
open LCg LCt
section
variable {prog : Program} {w : World} {A : Around} {E : Value → Shared → Prop} {s : Shared} {h₀ : Heap} {L : Addr} {m : Str → Option Value} {env : Env}
/-- a turn's end of a comprehension: the ledger's old part stands, some new things lie ahead of it -/
noncomputable def ElT (h₀ : Heap) (L : Addr) (m : Str → Option Value) (s : Shared) (I : Addr) (oI : Obj) (C : Addr) (oC : Obj) (D : Addr) (oD : Obj) (news : List (Addr × Obj)) (R : List (Addr × Obj) → Value → Prop) (y : Value) (s₂ : Shared) : Prop :=
  ∃ h' tk add, s₂ = { s with heap := h', toks := tk } ∧ Fr h₀ L h' m ∧ News h₀ L h' ((I, oI) :: (C, oC) :: (D, oD) :: (add ++ news)) ∧ Off3 I C D add ∧ R (add ++ news) y
theorem off3_app {I C D : Addr} : ∀ {a b : List (Addr × Obj)}, Off3 I C D a → Off3 I C D b → Off3 I C D (a ++ b)
  | [], _, _, h => h
  | _ :: _, _, h, h' => ⟨h.1, off3_app h.2 h'⟩
/-- a comprehension's turns, its items and what they give said by two relations -/
theorem cmp_rest {α β : Type} {elt : Expr} {x : Str} {scope : Scope} {cl : List (Str × Addr)} {S : List (Addr × Obj) → Prop} {P : Nat → Value → Prop} {Fin : List Value → List (Addr × Obj) → Prop} {news : List (Addr × Obj)} {n : Nat}
    (xs : List α) (rel : α → Value → Prop) (g : α → β) (R : List (Addr × Obj) → Value → β → Prop) (hmono : ∀ l l' v b, (∀ p ∈ l, p ∈ l') → R l v b → R l' v b)
    (hS : ∀ add, S (add ++ news)) (hn : xs.length = n) (hP : ∀ i v, i < n → P i v → ∃ a, xs[i]? = some a ∧ rel a v)
    (turn : ∀ a v tl I oI C oC D m₂ ys h tk (E' : Value → Shared → Prop), a ∈ xs → rel a v → NsObj oC m₂ → m₂ x = some v → Fr h₀ L h m → News h₀ L h ((I, oI) :: (C, oC) :: (D, lst ys) :: (tl ++ news)) → Off3 I C D (tl ++ news) → ((@Ne Nat I C) ∧ (@Ne Nat I D) ∧ (@Ne Nat C D)) →
      wpAny (model prog w) A (eval elt (compEnvC scope cl C env)) (ElT h₀ L m { s with heap := h, toks := tk } I oI C oC D (lst ys) (tl ++ news) (fun l y => R l y (g a))) E' { s with heap := h, toks := tk })
    (fin : ∀ tl ys, List.length ys = n → (∀ (i : Nat) v, ys[i]? = some v → ∃ a, xs[i]? = some a ∧ R (tl ++ news) v (g a)) → Fin ys (tl ++ news)) : CompRest prog w A h₀ L m env elt x scope cl s S P Fin n 0 [] news := by
  have key : ∀ (j i : Nat) (ys : List Value) (tl : List (Addr × Obj)), i + j = n → List.length ys = i → (∀ (k : Nat) v, ys[k]? = some v → ∃ a, xs[k]? = some a ∧ R (tl ++ news) v (g a)) → CompRest prog w A h₀ L m env elt x scope cl s S P Fin j i ys (tl ++ news) := by
    intro j
    induction j with
    | zero =>
      intro i ys tl hi hy hr
      exact CompRest.zero (fin tl ys (by omega) hr)
    | succ j ih =>
      intro i ys tl hi hy hr
      refine CompRest.succ ?_
      intro v I oI C oC D m₂ h tk E' hv hC hx F N off ne
      obtain ⟨a, ha, hrel⟩ := hP i v (by omega) hv
      refine wpAny_mono (turn a v tl I oI C oC D m₂ ys h tk E' (List.mem_of_getElem? ha) hrel hC hx F N off ne) (fun y s₂ hq => ?_) fun _ _ e => e
      obtain ⟨h', tk', add, e, F', N', off', hR⟩ := hq
      rw [← List.append_assoc] at N' hR
      refine ⟨h', tk', (add ++ tl) ++ news, e, F', N', ?_, hS _, ih (i + 1) _ _ (by omega) (by simp [hy]) ?_⟩
      · rw [List.append_assoc]
        exact off3_app off' off
      · intro k v hk
        rw [List.getElem?_append] at hk
        split at hk
        · obtain ⟨b, hb, hb'⟩ := hr k v hk
          exact ⟨b, hb, hmono _ _ _ _ (fun p hp => by rw [List.append_assoc]; exact List.mem_append_right _ hp) hb'⟩
        · have hk0 : k - ys.length = 0 := by
            by_cases e0 : k - ys.length = 0
            · exact e0
            · rw [List.getElem?_eq_none (by simp; omega)] at hk; cases hk
          rw [hk0] at hk
          simp only [List.getElem?_cons_zero, Option.some.injEq] at hk
          subst hk
          have hki : k = i := by omega
          subst hki
          exact ⟨a, ha, hR⟩
  exact key n 0 [] [] (by omega) rfl (fun k v hk => by simp at hk)
/-- the same with a test that is always met -/
theorem cmp_restT {α β : Type} {ct elt : Expr} {x : Str} {scope : Scope} {cl : List (Str × Addr)} {S : List (Addr × Obj) → Prop} {P : Nat → Value → Prop} {Fin : List Value → List (Addr × Obj) → Prop} {news : List (Addr × Obj)} {n : Nat}
    (xs : List α) (rel : α → Value → Prop) (g : α → β) (R : Value → β → Prop)
    (hS : S news) (hn : xs.length = n) (hP : ∀ i v, i < n → P i v → ∃ a, xs[i]? = some a ∧ rel a v)
    (turn : ∀ a v I oI C oC D m₂ ys h tk (E' : Value → Shared → Prop), a ∈ xs → rel a v → NsObj oC m₂ → m₂ x = some v → Fr h₀ L h m → News h₀ L h ((I, oI) :: (C, oC) :: (D, lst ys) :: news) → Off3 I C D news → ((@Ne Nat I C) ∧ (@Ne Nat I D) ∧ (@Ne Nat C D)) →
      wpAny (model prog w) A (isTrue ct (compEnvC scope cl C env) (eval ct (compEnvC scope cl C env))) (fun ok s' => ok = true ∧ 
        wpAny (model prog w) A (eval elt (compEnvC scope cl C env)) (ElT h₀ L m { s with heap := h, toks := tk } I oI C oC D (lst ys) news (fun l y => R y (g a))) E' s') E' { s with heap := h, toks := tk })
    (fin : ∀ ys, List.length ys = n → (∀ (i : Nat) v, ys[i]? = some v → ∃ a, xs[i]? = some a ∧ R v (g a)) → Fin ys news) : CompRestT prog w A h₀ L m env ct elt x scope cl s S P Fin n 0 [] news := by
  have key : ∀ (j i : Nat) (ys : List Value), i + j = n → List.length ys = i → (∀ (k : Nat) v, ys[k]? = some v → ∃ a, xs[k]? = some a ∧ R v (g a)) → CompRestT prog w A h₀ L m env ct elt x scope cl s S P Fin j i ys news := by
    intro j
    induction j with
    | zero =>
      intro i ys hi hy hr
      exact CompRestT.zero (fin ys (by omega) hr)
    | succ j ih =>
      intro i ys hi hy hr
      refine CompRestT.succ ?_
      intro v I oI C oC D m₂ h tk E' hv hC hx F N off ne
      obtain ⟨a, ha, hrel⟩ := hP i v (by omega) hv
      refine wpAny_mono (turn a v I oI C oC D m₂ ys h tk E' (List.mem_of_getElem? ha) hrel hC hx F N off ne) (fun ok s₂ hq => ?_) fun _ _ e => e
      obtain ⟨rfl, hq⟩ := hq
      rw [if_pos rfl]
      refine wpAny_mono hq (fun y s₃ hq => ?_) fun _ _ e => e
      obtain ⟨h', tk', add, e, F', N', off', hR⟩ := hq
      refine ⟨h', tk', news, e, F', fun p hp => N' p ?_, off, hS, ih (i + 1) _ (by omega) (by simp [hy]) ?_⟩
      · simp only [List.mem_cons, List.mem_append] at hp ⊢
        rcases hp with e | e | e | e <;> simp [e]
      · intro k v hk
        rw [List.getElem?_append] at hk
        split at hk
        · exact hr k v hk
        · have hk0 : k - ys.length = 0 := by
            by_cases e0 : k - ys.length = 0
            · exact e0
            · rw [List.getElem?_eq_none (by simp; omega)] at hk; cases hk
          rw [hk0] at hk
          simp only [List.getElem?_cons_zero, Option.some.injEq] at hk
          subst hk
          have hki : k = i := by omega
          subst hki
          exact ⟨a, ha, hR⟩
  exact key n 0 [] (by omega) rfl (fun k v hk => by simp at hk)
/-- the same, the ledger as it was -/
theorem cmp_rest0 {α β : Type} {elt : Expr} {x : Str} {scope : Scope} {cl : List (Str × Addr)} {S : List (Addr × Obj) → Prop} {P : Nat → Value → Prop} {Fin : List Value → List (Addr × Obj) → Prop} {news : List (Addr × Obj)} {n : Nat}
    (xs : List α) (rel : α → Value → Prop) (g : α → β) (R : Value → β → Prop)
    (hS : S news) (hn : xs.length = n) (hP : ∀ i v, i < n → P i v → ∃ a, xs[i]? = some a ∧ rel a v)
    (turn : ∀ a v I oI C oC D m₂ ys h tk (E' : Value → Shared → Prop), a ∈ xs → rel a v → NsObj oC m₂ → m₂ x = some v → Fr h₀ L h m → News h₀ L h ((I, oI) :: (C, oC) :: (D, lst ys) :: news) → Off3 I C D news → ((@Ne Nat I C) ∧ (@Ne Nat I D) ∧ (@Ne Nat C D)) →
      wpAny (model prog w) A (eval elt (compEnvC scope cl C env)) (ElT h₀ L m { s with heap := h, toks := tk } I oI C oC D (lst ys) news (fun l y => R y (g a))) E' { s with heap := h, toks := tk })
    (fin : ∀ ys, List.length ys = n → (∀ (i : Nat) v, ys[i]? = some v → ∃ a, xs[i]? = some a ∧ R v (g a)) → Fin ys news) : CompRest prog w A h₀ L m env elt x scope cl s S P Fin n 0 [] news := by
  have key : ∀ (j i : Nat) (ys : List Value), i + j = n → List.length ys = i → (∀ (k : Nat) v, ys[k]? = some v → ∃ a, xs[k]? = some a ∧ R v (g a)) → CompRest prog w A h₀ L m env elt x scope cl s S P Fin j i ys news := by
    intro j
    induction j with
    | zero =>
      intro i ys hi hy hr
      exact CompRest.zero (fin ys (by omega) hr)
    | succ j ih =>
      intro i ys hi hy hr
      refine CompRest.succ ?_
      intro v I oI C oC D m₂ h tk E' hv hC hx F N off ne
      obtain ⟨a, ha, hrel⟩ := hP i v (by omega) hv
      refine wpAny_mono (turn a v I oI C oC D m₂ ys h tk E' (List.mem_of_getElem? ha) hrel hC hx F N off ne) (fun y s₃ hq => ?_) fun _ _ e => e
      obtain ⟨h', tk', add, e, F', N', off', hR⟩ := hq
      refine ⟨h', tk', news, e, F', fun p hp => N' p ?_, off, hS, ih (i + 1) _ (by omega) (by simp [hy]) ?_⟩
      · simp only [List.mem_cons, List.mem_append] at hp ⊢
        rcases hp with e | e | e | e <;> simp [e]
      · intro k v hk
        rw [List.getElem?_append] at hk
        split at hk
        · exact hr k v hk
        · have hk0 : k - ys.length = 0 := by
            by_cases e0 : k - ys.length = 0
            · exact e0
            · rw [List.getElem?_eq_none (by simp; omega)] at hk; cases hk
          rw [hk0] at hk
          simp only [List.getElem?_cons_zero, Option.some.injEq] at hk
          subst hk
          have hki : k = i := by omega
          subst hki
          exact ⟨a, ha, hR⟩
  exact key n 0 [] (by omega) rfl (fun k v hk => by simp at hk)
theorem elt_end {I : Addr} {oI : Obj} {C : Addr} {oC : Obj} {D : Addr} {oD : Obj} {news all : List (Addr × Obj)} {R : List (Addr × Obj) → Value → Prop} {y : Value} {h' : Heap} {tk : Nat}
    (F : Fr h₀ L h' m) (N : News h₀ L h' all) (hs : ∀ p ∈ (I, oI) :: (C, oC) :: (D, oD) :: news, p ∈ all) (r : R news y) : ElT h₀ L m s I oI C oC D oD news R y { s with heap := h', toks := tk } :=
  ⟨h', tk, [], rfl, F, fun p hp => N p (hs p hp), True.intro, r⟩
theorem strs_of {α : Type} {g : α → Str} : ∀ {xs : List α} {ys : List Value}, List.length ys = xs.length → (∀ (i : Nat) v, ys[i]? = some v → ∃ a, xs[i]? = some a ∧ ∃ t, v = .str (g a) t) → StrsAre ys (xs.map g)
  | [], [], _, _ => .nil
  | [], _ :: _, h, _ => by simp at h
  | _ :: _, [], h, _ => by simp at h
  | x :: xs, y :: ys, h, hr => by
    obtain ⟨a, ha, t, rfl⟩ := hr 0 y rfl
    simp only [List.getElem?_cons_zero, Option.some.injEq] at ha
    subst ha
    exact .cons _ _ (strs_of (by simpa using h) (fun i v hv => hr (i + 1) v (by simpa using hv)))
theorem ints_of2 {α : Type} {g : α → Int} : ∀ {xs : List α} {ys : List Value}, List.length ys = xs.length → (∀ (i : Nat) v, ys[i]? = some v → ∃ a, xs[i]? = some a ∧ ∃ t, v = .int (g a) t) → IntsAre ys (xs.map g)
  | [], [], _, _ => .nil
  | [], _ :: _, h, _ => by simp at h
  | _ :: _, [], h, _ => by simp at h
  | x :: xs, y :: ys, h, hr => by
    obtain ⟨a, ha, t, rfl⟩ := hr 0 y rfl
    simp only [List.getElem?_cons_zero, Option.some.injEq] at ha
    subst ha
    exact .cons _ _ (ints_of2 (by simpa using h) (fun i v hv => hr (i + 1) v (by simpa using hv)))
theorem dats_of {α : Type} {g : α → Dat} {L9 : List (Addr × Obj)} : ∀ {xs : List α} {ys : List Value}, List.length ys = xs.length → (∀ (i : Nat) v, ys[i]? = some v → ∃ a, xs[i]? = some a ∧ DatIn L9 v (g a)) → DatAll L9 ys (xs.map g)
  | [], [], _, _ => .nil
  | [], _ :: _, h, _ => by simp at h
  | _ :: _, [], h, _ => by simp at h
  | x :: xs, y :: ys, h, hr => by
    obtain ⟨a, ha, hv⟩ := hr 0 y rfl
    simp only [List.getElem?_cons_zero, Option.some.injEq] at ha
    subst ha
    exact .cons hv (dats_of (by simpa using h) (fun i v hv => hr (i + 1) v (by simpa using hv)))
/-- the source is a text -/
noncomputable def SrcS (prog : Program) (w : World) (A : Around) (h₀ : Heap) (L : Addr) (m : Str → Option Value) (env : Env) (elt : Expr) (x : Str) (scope : Scope) (cl : List (Str × Addr)) (Fin : Shared → List Value → List (Addr × Obj) → Prop) (xv : Value) (s₁ : Shared) : Prop :=
  ∃ a t news, xv = .str a t ∧ A.handled = none ∧ Fr h₀ L s₁.heap m ∧ News h₀ L s₁.heap news ∧ a.cps.size ≤ sizeLine ∧
    ∀ s₂ : Shared, (∃ h, s₂ = { s₁ with heap := h }) → CompRest prog w A h₀ L m env elt x scope cl s₂ (fun _ => True) (SignAt a) (Fin s₂) a.cps.size 0 [] news
theorem str_walks {I : Addr} (hh : A.handled = none) (a : Str) (t : Tok) : Walks prog w A I [I] [I] a.cps.size (SignAt a) (fun i h => h.IsStrIter I (strIterType a) a t i) := by
  unfold strIterType
  split
  · exact Walks.strAscii hh I a t
  · exact Walks.strWide hh I a t
theorem ListComp_S {elt iter : Expr} {x : Str} {px : Pos} {scope : Scope} {cl : List (Str × Addr)} {pos : Pos} {Q : Value → Shared → Prop} (F₀ : Fr h₀ L s.heap m)
    (hclos : closureFor scope env = pure cl) (hcell : ∀ y ∈ scope.names, y.2 ≠ .cell) (hkind : scope.kind = .function)
    (hnames : ∀ y ∈ scope.names, y.2 = .local → scope.names.lookup y.1 = some .local) (hx : scope.names.lookup x = some .local)
    (h : wpAny (model prog w) A (eval iter env) (SrcS prog w A h₀ L m env elt x scope cl (fun s₂ => FinE h₀ L m s₂ Q)) E s)
    (hs : ∀ x, foldedSetIterable iter env x = pure x := by intro _; rfl) :
    wpAny (model prog w) A (eval (.ListComp elt [⟨.Name x px, iter, [], 0⟩] scope pos) env) Q E s := by
  rw [eval_ListComp]
  refine wpAny_comprehension_free (use := none) rfl hs hclos hkind hnames (wpAny_mono h (fun xv s₁ h₁ => ?_) fun _ _ e => e)
  obtain ⟨a, t, news, rfl, hh, F, N, hsz, R⟩ := h₁
  refine wpAny_pyIter_strU ?_
  have up : ∀ b o, s₁.heap.get? b = some o → (s₁.heap.push { cls := .type (strIterType a), data := .fields #[.str a t, .int 0 0] }).get? b = some o := fun b o e => Heap.get?_push_of_some _ e
  refine block_U (str_walks hh a t) hsz (fun i h st => ⟨_, st.choose_spec.1⟩) (fun i h h' o nw st e e' _ _ _ => ?_) hcell hkind hx ⟨_, Heap.get?_push_size _ rfl, rfl, rfl⟩ (fun b hb => ?_)
    (F.keeps up) (N.grown up) (Nat.ne_of_lt F.ns.lt) (next_is_new F) (fun p hp => Nat.ne_of_lt (Heap.lt_size (N p hp).1)) True.intro (R _ ⟨_, rfl⟩) ?_
  · obtain ⟨o', q, r⟩ := st
    rw [e] at q
    cases q
    exact ⟨o, e', r⟩
  · rw [List.mem_singleton.mp hb]
    show s₁.heap.objs.size < (s₁.heap.push _).objs.size
    rw [Heap.size_push]; exact Nat.lt_succ_self _
  · intro D C h tk m' ys news' F' N' o1 hn hC₀ hD₀ hCL hDL hCD offC fin
    refine ⟨m', hn, fun h'' hs'' => fin D h'' tk (F'.change hs'' hCL hC₀) (fun p hp => ?_) o1⟩
    refine ⟨hs''.extBut _ _ ?_ (N' p hp).1, (N' p hp).2⟩
    rcases List.mem_cons.mp hp with rfl | hp
    · exact Ne.symm hCD
    · exact offC p hp
theorem SrcS.intro {elt : Expr} {x : Str} {scope : Scope} {cl : List (Str × Addr)} {Fin : Shared → List Value → List (Addr × Obj) → Prop} {a : Str} {t : Tok} {news : List (Addr × Obj)} {s₁ : Shared}
    (hh : A.handled = none) (F : Fr h₀ L s₁.heap m) (N : News h₀ L s₁.heap news) (hsz : a.cps.size ≤ sizeLine)
    (h : ∀ g, CompRest prog w A h₀ L m env elt x scope cl { s₁ with heap := g } (fun _ => True) (SignAt a) (Fin { s₁ with heap := g }) a.cps.size 0 [] news) :
    SrcS prog w A h₀ L m env elt x scope cl Fin (.str a t) s₁ := ⟨a, t, news, rfl, hh, F, N, hsz, fun _ ⟨g, e⟩ => e ▸ h g⟩
noncomputable def signs (a : Str) : List Str := (cs a).map fun c => mkS [c]
theorem signs_len (a : Str) : (signs a).length = a.cps.size := by simp [signs, cs]
theorem signs_rel {a : Str} : ∀ i v, i < a.cps.size → SignAt a i v → ∃ x, (signs a)[i]? = some x ∧ ∃ t, v = .str x t := by
  rintro i v hi ⟨c, u, hc, rfl⟩
  refine ⟨mkS [c], ?_, u, rfl⟩
  simp only [signs, List.getElem?_map, cs, Array.getElem?_toList, hc, Option.map_some]
end
end Mine

end
/-! part LawP -/
section
open PySem PySem.W PyProof.Rows PySem.Calls PySem.Spec PyProof.V
namespace Mine
noncomputable abbrev lawEnv (L aa : Addr) (ccd : Value) (C1 C2 : Addr) : Env := envX (Str.ofString "law") (fnScope 23) L aa ccd [(Str.ofString "texts", C2), (Str.ofString "text", C1)]
noncomputable def drawn (x : Int) : Str := Txt.item (Str.ofString "ab\"\\") (x.fmod 4)
/-- the law's text -/
noncomputable def textOf (ns : List Int) : Str := Str.ofString "b\"\\a" ++ Txt.join (Str.ofString "") ((ns.take 2).map drawn)
theorem drawn_len (x : Int) : (drawn x).length = 1 := by
  have h0 : 0 ≤ x.fmod 4 := Int.fmod_nonneg_of_pos x (by omega)
  have h1 : x.fmod 4 < 4 := Int.fmod_lt_of_pos x (by omega)
  unfold drawn
  rcases (by omega : x.fmod 4 = 0 ∨ x.fmod 4 = 1 ∨ x.fmod 4 = 2 ∨ x.fmod 4 = 3) with e | e | e | e <;> rw [e] <;> decide +kernel
theorem ints_rel {vs : List Value} {ns : List Int} (h : IntsAre vs ns) : ∀ i v, i < vs.toArray.size → vs.toArray[i]? = some v → ∃ a, ns[i]? = some a ∧ ∃ t, v = .int a t := by
  intro i v _ hv
  obtain ⟨k, t, e, hk⟩ := IntsAre.at h i v (by simpa using hv)
  exact ⟨k, hk, t, e⟩
theorem strs_join {prog : Program} {w : World} {A : Around} {E : Value → Shared → Prop} {s : Shared} {h₀ : Heap} {L l : Addr} {n : Nat} {sep : Str} {vs : List Value} {xs : List Str} {t : Tok} {news : List (Addr × Obj)} {Q : Value → Shared → Prop}
    (N : News h₀ L s.heap news) (hm : (l, listOf vs.toArray n) ∈ news) (hx : StrsAre vs xs) (hsep : sep.length ≤ 64) (hl : ∀ x ∈ xs, x.length ≤ 100) (hn : xs.length ≤ 1000) (h : ∀ t' k, Q (.str (Txt.join sep xs) t') { s with toks := k }) :
    wpAny (model prog w) A (call (.builtin "str.join") [.str sep t, .ref l]) Q E s := by
  refine join_listC (ys := xs) (PySem.IsL.isList (n := n) (N _ hm).1) hx hsep ?_ h
  have key : ∀ ys : List Str, (∀ x ∈ ys, x.length ≤ 100) → (ys.map (·.length)).sum ≤ ys.length * 100 := by
    intro ys
    induction ys with
    | nil => intro _; simp
    | cons y ys ih =>
      intro hy
      have h1 := hy y (.head _)
      have h2 := ih fun x hx => hy x (.tail _ hx)
      simp only [List.map_cons, List.sum_cons, List.length_cons]
      omega
  have := key xs hl
  omega
theorem drawn_all {l : List Int} : ∀ x ∈ l.map drawn, x.length ≤ 100 := by
  intro x hx
  obtain ⟨k, _, rfl⟩ := List.mem_map.mp hx
  rw [drawn_len]
  omega
theorem drawn_few {ns : List Int} : ((ns.take 2).map drawn).length ≤ 1000 := by
  simp only [List.length_map, List.length_take]
  omega
noncomputable def four : List Str := [Str.ofString "a", Str.ofString "b", Str.ofString "\"", Str.ofString "\\"]
theorem drawn_in (x : Int) : drawn x ∈ four := by
  have h0 : 0 ≤ x.fmod 4 := Int.fmod_nonneg_of_pos x (by omega)
  have h1 : x.fmod 4 < 4 := Int.fmod_lt_of_pos x (by omega)
  unfold drawn
  rcases (by omega : x.fmod 4 = 0 ∨ x.fmod 4 = 1 ∨ x.fmod 4 = 2 ∨ x.fmod 4 = 3) with e | e | e | e <;> rw [e] <;> decide +kernel
/-- the signs that may be drawn -/
noncomputable def tails : List (List Str) := [] :: (four.map fun a => [a]) ++ four.flatMap fun a => four.map fun b => [a, b]
theorem take2_in (ns : List Int) : (ns.take 2).map drawn ∈ tails := by
  unfold tails
  match ns with
  | [] => simp
  | [x] =>
    have := drawn_in x
    simp only [List.cons_append, List.mem_cons, List.mem_append, List.mem_map]
    exact .inr (.inl ⟨drawn x, this, rfl⟩)
  | x :: y :: r =>
    have hx := drawn_in x
    have hy := drawn_in y
    simp only [List.cons_append, List.mem_cons, List.mem_append, List.mem_map, List.mem_flatMap]
    exact .inr (.inr ⟨drawn x, hx, drawn y, hy, rfl⟩)
noncomputable def textOfL (l : List Str) : Str := Str.ofString "b\"\\a" ++ Txt.join (Str.ofString "") l
/-- the law's texts -/
noncomputable def allTexts : List Str := tails.map textOfL
theorem textOf_in (ns : List Int) : textOf ns ∈ allTexts := List.mem_map.mpr ⟨_, take2_in ns, rfl⟩
theorem join_few (ns : List Int) : (Txt.join (Str.ofString "") ((ns.take 2).map drawn)).length ≤ 2 :=
  (by decide +kernel : ∀ l ∈ tails, (Txt.join (Str.ofString "") l).length ≤ 2) _ (take2_in ns)
theorem dat_strs {vs : List Value} {xs : List Str} (h : StrsAre vs xs) : DatAll [] vs (xs.map Dat.str) := by
  induction h with
  | nil => exact .nil
  | cons x t r ih => exact .cons (.str x t) ih
theorem dat_inj {xs ys : List Str} : xs.map Dat.str = ys.map Dat.str ↔ xs = ys := by
  constructor
  · intro h
    exact List.map_inj_right (fun a b e => by injection e) |>.mp h
  · rintro rfl; rfl
theorem dat_ok {xs : List Str} (h : ∀ x ∈ xs, PyData.strOk x = true) : ∀ d ∈ xs.map Dat.str, kqdOk 8 d = true := by
  intro d hd
  obtain ⟨x, hx, rfl⟩ := List.mem_map.mp hd
  exact h x hx
section
variable {prog : Program} {w : World} {A : Around} {E : Value → Shared → Prop} {s : Shared} {h₀ : Heap} {L a b : Addr} {n k : Nat} {vs us : List Value} {xs ys : List Str} {news : List (Addr × Obj)} {Q : Value → Shared → Prop}
theorem ne_strs (N : News h₀ L s.heap news) (ma : (a, listOf vs.toArray n) ∈ news) (mb : (b, listOf us.toArray k) ∈ news) (hv : StrsAre vs xs) (hu : StrsAre us ys) (ok : ∀ x ∈ xs, PyData.strOk x = true) (e : xs = ys) (hun : A.units + 64 < cLine) (h : Q (.bool false) s) :
    wpAny (model prog w) A (compareOp .NotEq (.ref a) (.ref b)) Q E s := by
  subst e
  refine kqd_ne N ma rfl rfl (dat_strs hv) (fun _ h => nomatch h) mb rfl rfl (dat_strs hu) (fun _ h => nomatch h) (dat_ok ok) (dat_ok ok) hun ?_
  simpa using h
theorem eq_strs (N : News h₀ L s.heap news) (ma : (a, listOf vs.toArray n) ∈ news) (mb : (b, listOf us.toArray k) ∈ news) (hv : StrsAre vs xs) (hu : StrsAre us ys) (ok : ∀ x ∈ xs, PyData.strOk x = true) (e : xs = ys) (hun : A.units + 64 < cLine) (h : Q (.bool true) s) :
    wpAny (model prog w) A (compareOp .Eq (.ref a) (.ref b)) Q E s := by
  subst e
  refine kqd_eq N ma rfl rfl (dat_strs hv) (fun _ h => nomatch h) mb rfl rfl (dat_strs hu) (fun _ h => nomatch h) (dat_ok ok) (dat_ok ok) hun ?_
  simpa using h
end
section
variable {prog : Program} {w : World} {A : Around} {E : Value → Shared → Prop} {s : Shared} {h₀ : Heap} {L l a b : Addr} {m : Str → Option Value} {n k : Nat} {vs us : List Value} {xs ys : List Str} {news : List (Addr × Obj)} {Q : Value → Shared → Prop} {value slice : PySem.Expr} {u : Tok}
theorem add_strs (F : Fr h₀ L s.heap m) (N : News h₀ L s.heap news) (ma : (a, listOf vs.toArray n) ∈ news) (mb : (b, listOf us.toArray k) ∈ news) (hi : StrsAre vs xs) (hj : StrsAre us ys) (hz : xs.length + ys.length ≤ 1000)
    (h : ∀ D ws h', Fr h₀ L h' m → News h₀ L h' ((D, listOf (List.toArray ws) 0) :: news) → (∀ p ∈ news, p.1 < D) → StrsAre ws (xs ++ ys) → Q (.ref D) { s with heap := h' }) :
    wpAny (model prog w) A (binaryOp .Add (.ref a) (.ref b)) Q E s :=
  add_lists (hsz := by rw [hi.length, hj.length, PySem.sizeLine_eq]; omega) F N ⟨_, (N _ ma).1, rfl, _, rfl⟩ ⟨_, (N _ mb).1, rfl, _, rfl⟩ fun h' F' N' => h _ _ h' F' N' (fun p hp => Heap.lt_size (N p hp).1) (hi.append' hj)
theorem slice_last2 (F : Fr h₀ L s.heap m) (N : News h₀ L s.heap news) (hm : (l, listOf vs.toArray n) ∈ news) (h2 : 2 ≤ vs.length) (hb : vs.length ≤ 1000)
    (h : ∀ D h', Fr h₀ L h' m → News h₀ L h' ((D, listOf (vs.take (vs.length - 2)).toArray 0) :: news) → (∀ p ∈ news, p.1 < D) → Q (.ref D) { s with heap := h' })
    (hs : subscripted slice false (.ref l) (.ref s.heap.objs.size) = operate [.ref s.heap.objs.size, .ref l] (getItem (.ref l) (.ref s.heap.objs.size))) (ht : ∀ r, letTemporaryGo value (.ref l) r = pure ()) :
    wpAny (model prog w) A (subscriptTail value slice (.ref l) (.ref s.heap.objs.size)) Q E { s with heap := s.heap.push { cls := .type "slice", data := .fields #[.none, .int (-2) u, .none] } } := by
  refine kmk_slice F N ⟨_, (N _ hm).1, rfl, _, rfl⟩ .none (.int (-2) u) (fun D h' F' N' l1 => h D h' F' ?_ l1) hs ht (by rw [PySem.sizeLine_eq, List.size_toArray]; omega)
  have e : slicePick vs.toArray none (some (-2)) none = (vs.take (vs.length - 2)).toArray := by
    rw [kmk_pick_nat vs.toArray (a := 0) (b := vs.length - 2) (by
      unfold sliceBounds
      simp only [List.size_toArray]
      (try simp)
      (try omega))]
    simp
  rw [← e]
  exact N'
theorem slice_tail (F : Fr h₀ L s.heap m) (N : News h₀ L s.heap news) (hm : (l, listOf vs.toArray n) ∈ news) (hb : vs.length ≤ 1000)
    (h : ∀ D h', Fr h₀ L h' m → News h₀ L h' ((D, listOf (vs.drop 1).toArray 0) :: news) → (∀ p ∈ news, p.1 < D) → Q (.ref D) { s with heap := h' })
    (hs : subscripted slice false (.ref l) (.ref s.heap.objs.size) = operate [.ref s.heap.objs.size, .ref l] (getItem (.ref l) (.ref s.heap.objs.size))) (ht : ∀ r, letTemporaryGo value (.ref l) r = pure ()) :
    wpAny (model prog w) A (subscriptTail value slice (.ref l) (.ref s.heap.objs.size)) Q E { s with heap := s.heap.push { cls := .type "slice", data := .fields #[.int 1 u, .none, .none] } } := by
  refine kmk_slice F N ⟨_, (N _ hm).1, rfl, _, rfl⟩ (.int 1 u) .none (fun D h' F' N' l1 => h D h' F' ?_ l1) hs ht (by rw [PySem.sizeLine_eq, List.size_toArray]; omega)
  have e : slicePick vs.toArray (some 1) none none = (vs.drop 1).toArray := by
    by_cases h0 : vs.length = 0
    · have : vs = [] := List.eq_nil_of_length_eq_zero h0
      subst this
      rfl
    rw [kmk_pick_nat vs.toArray (a := 1) (b := vs.length) (by
      unfold sliceBounds
      simp only [List.size_toArray]
      (try simp)
      (try omega))]
    congr 1
    rw [List.take_of_length_le]
    simp
  rw [← e]
  exact N'
end
/-- a turn's end of a loop that stores names alone -/
noncomputable def RngEnd (h₀ : Heap) (L : Addr) (news : List (Addr × Obj)) (x : Str) (stored : List Str) (m₀ : Str → Option Value) (s : Shared) (Q : Flow → Shared → Prop) (f : Flow) (s₂ : Shared) : Prop :=
  match f with
  | .ret v => Q (.ret v) s₂
  | .brk => Q .next s₂
  | _ => ∃ h' tk' m', s₂ = { s with heap := h', toks := tk' } ∧ Fr h₀ L h' m' ∧ News h₀ L h' news ∧ ∀ z, z ≠ x → stored.contains z = false → m' z = m₀ z
section
variable {prog : Program} {w : World} {A : Around} {E : Value → Shared → Prop} {s : Shared} {env : Env} {h₀ : Heap} {x : Str} {body : List Stmt} {Q : Flow → Shared → Prop}
theorem rng_loop {r : Addr} {n : Nat} {t₀ u₀ v₀ : Tok} {m₀ : Str → Option Value} {news : List (Addr × Obj)} (stored : List Str)
    (hh : A.handled = none) (hr : IsRange s.heap r 0 (n : Int) 1 t₀ u₀ v₀) (hb : n ≤ 1000) (F : Fr h₀ env.locals s.heap m₀) (N : News h₀ env.locals s.heap news)
    (turn : ∀ (k : Int) t (u : Str → Option Value) h tk own, 0 ≤ k → k < (n : Int) → OwnOff own (news.map (·.1)) →
      Fr h₀ env.locals h (fun y => if y = x then some (.int k t) else if stored.contains y then u y else m₀ y) → News h₀ env.locals h (news ++ own) →
      wpAny (model prog w) A (execs body env) (RngEnd h₀ env.locals (news ++ own) x stored m₀ { s with heap := h, toks := tk } Q) E { s with heap := h, toks := tk })
    (done : ∀ (u : Str → Option Value) h tk, Fr h₀ env.locals h (fun y => if y = x then u y else if stored.contains y then u y else m₀ y) → News h₀ env.locals h news → Q .next { s with heap := h, toks := tk }) :
    wpAny (model prog w) A (pyIter (.ref r)) (fun it s₂ => LoopAtV prog w A h₀ env x body Q E it s₂) E s := by
  refine kst_range (σ := Unit) (fun _ => news) (fun _ => []) (fun _ => True) stored (fun _ _ => True) () hh hr (small_one (by omega) (by omega) (by omega) (by omega)) (n := n) (by
    unfold Builtin.Range.rangeSize
    split
    · split <;> omega
    · omega) F N trivial (by intro p hp; simp at hp) trivial ?_ ?_
  · intro c pre k t u h tk own hk hlt hoff _ _ F' N'
    refine wpAny_mono (turn k t u h tk own (by omega) (by omega) hoff F' N') (fun f s₂ q => ?_) fun _ _ e => e
    cases f with
    | ret v => exact q
    | brk => exact q
    | next =>
      obtain ⟨h', tk', m', rfl, F2, N2, hm⟩ := q
      exact kst_end () F2 N2 (fun p hp => List.mem_append_left _ hp) (fun p hp => List.mem_append_right _ hp) rfl trivial (by intro p hp; simp at hp) (fun z h1 _ h3 => hm z h1 h3) trivial
    | cont =>
      obtain ⟨h', tk', m', rfl, F2, N2, hm⟩ := q
      exact kst_end () F2 N2 (fun p hp => List.mem_append_left _ hp) (fun p hp => List.mem_append_right _ hp) rfl trivial (by intro p hp; simp at hp) (fun z h1 _ h3 => hm z h1 h3) trivial
  · intro c u h tk _ _ F' N'
    exact done u h tk F' N'
theorem rng_end {news : List (Addr × Obj)} {stored : List Str} {L : Addr} {m₀ m' : Str → Option Value} {h' : Heap} {tk : Nat} {all : List (Addr × Obj)} (F : Fr h₀ L h' m') (N : News h₀ L h' all) (hs : ∀ p ∈ news, p ∈ all) (hm : ∀ z, z ≠ x → stored.contains z = false → m' z = m₀ z) :
    RngEnd h₀ L news x stored m₀ s Q .next { s with heap := h', toks := tk } := ⟨h', tk, m', rfl, F, fun p hp => N p (hs p hp), hm⟩
end
end Mine

end
/-! part St0 -/
section
open PySem PySem.W PyProof.Rows PySem.Calls PySem.Spec PyProof.V
namespace Mine
local macro_rules | `(tactic| walk_at "ElT") => `(tactic| ((rename News _ _ _ _ => lN'); exact elt_end (by assumption) lN' (fun p hp => by repeat (first | exact hp | apply List.Mem.tail)) ⟨_, rfl⟩))
local macro_rules | `(tactic| walk_at "call builtin:str.join") => `(tactic| (k_here; k_dflt (refine strs_join (by k_asm) (by k_mem) (by assumption) (by decide +kernel) drawn_all drawn_few ?_); intro t' k'))
local macro_rules | `(tactic| walk_at "eval ListComp") => `(tactic| (k_here; k_dflt (refine LCg.ListComp_U (F₀ := by k_asm) (by with_unfolding_all rfl) (by decide) (by rfl) (by decide) (by rfl) ?_)))
local macro_rules | `(tactic| walk_at "CompSrc") => `(tactic| (k_here; k_dflt ((refine LCg.CompSrc.ledger (by rfl) (by k_asm) (by k_asm) (by k_mem) (by size_fits) ?_); intro g'; (refine cmp_rest0 (List.take 2 ns) (fun (k : Int) v => ∃ t, v = Value.int k t) drawn (fun y (x : Str) => ∃ t, y = .str x t) (Or.inr ⟨_, by k_mem, rfl, _, rfl⟩) (by rw [List.size_toArray]; exact (IntsAre.length (by assumption)).symm) (ints_rel (by assumption)) (fun k' v' I' oI' C' oC' D' m' ys' h' tk' E' hk' hr' hC' hx' F' N' off' ne' => ?_) (fun ys' hl' hr' => ?_)))))
theorem filt_true {α : Type} (l : List α) : l.filter (fun _ => true) = l := by simp
set_option maxRecDepth 100000 in
set_option maxHeartbeats 8000000 in
theorem law_st0 (w : World) {mean : ExcName → Option Value} {mg mb : Str → Option Value} {aa : Addr} {ccd : Value} {L C1 C2 : Addr} {base h₀ h9 : Heap} {tk9 : Nat} {m0 : Str → Option Value} {s : Shared} {Q : Flow → Shared → Prop} {E : Value → Shared → Prop} {news : List (Addr × Obj)}
    {SC : Addr} {vs : List Value} {ns : List Int} {o1 o2 : Obj} {v1 v2 : Option Value} {tS : Tok}
    (B' : Below callerA base [] h₀) (X' : (Mine.hd.heap_39 w.params).In h₀) (T' : Top topProg looseG mean mg mb h₀)
    (F' : Fr h₀ L h9 (fun y => if y = (Str.ofString "script") then some (.ref SC) else m0 y))
    (N' : News h₀ L h9 ((C2, o2) :: (C1, o1) :: (244, tabObj #[]) :: []))
    (hl : h₀.IsList SC vs.toArray) (hI : IntsAre vs ns) (hn : ns.length ≤ 63) (hd1 : o1.data = .cell v1) (hC : @LT.lt Nat _ C1 C2) (hC1 : @LT.lt Nat _ 244 C1) (hC2 : @LT.lt Nat _ 244 C2)
    (hq : ∀ h tk t o', Fr h₀ L h (fun y => if y = Str.ofString "script" then some (.ref SC) else m0 y) → News h₀ L h ((C2, o2) :: (C1, o') :: (244, tabObj #[]) :: []) → o'.data = .cell (some (.str (textOf ns) t)) → Q .next { s with heap := h, toks := tk }) :
    wpAny (model PySem.Challenge.rw_pe0249_01.row.prog w) (callerA.deeper (lawEnv L aa ccd C1 C2)) (exec (stAt 23 0) (lawEnv L aa ccd C1 C2)) Q
      (fun e s' => wpAny (model PySem.Challenge.rw_pe0249_01.row.prog w) (callerA.deeper (lawEnv L aa ccd C1 C2)) (leaving (lawEnv L aa ccd C1 C2) e) (fun _ s'' => E e s'') (fun e' s'' => E e' s'') s') { s with heap := h9, toks := tk9 } := by
  have : Mine.hd.heap_39 w.params = Mine.hd.heap_39 w.params ∧ PySem.Challenge.rw_pe0249_01 = PySem.Challenge.rw_pe0249_01 := by
    k_fill
    exact ⟨rfl, rfl⟩
  clear this
  k_with_none
  w_top off
  dsimp only [lawEnv]
  with_unfolding_all show wpAny _ _ (exec (Stmt.Assign _ _ _) _) _ _ _
  have hsc : fnScope 23 = fnScope 23 := rfl
  conv at hsc => rhs; whnf
  rw [hsc]
  clear hsc
  (try k_fold)
  repeat' (first | (k_unfold; (try dsimp only)) | ((fail_if_success (with_reducible show LCg.CompSrc _ _ _ _ _ _ _ _ _ _ _ _ _ _)); (first | walk1 | (dsimp only; walk1))))
  (k_here; k_dflt ((refine LCg.CompSrc.ledger (by rfl) (by k_asm) (by k_asm) (by k_mem) (by size_fits) ?_); intro g'; (refine cmp_rest0 (List.take 2 ns) (fun (k : Int) v => ∃ t, v = Value.int k t) drawn (fun y (x : Str) => ∃ t, y = .str x t) (Or.inr ⟨_, by k_mem, rfl, _, rfl⟩) (by rw [List.size_toArray]; exact (IntsAre.length (by assumption)).symm) (ints_rel (by assumption)) (fun k' v' I' oI' C' oC' D' m' ys' h' tk' E' hk' hr' hC' hx' F' N' off' ne' => ?_) (fun ys' hl' hr' => ?_))))
  · obtain ⟨t', rfl⟩ := hr'
    repeat' (first | (k_unfold; (try dsimp only)) | (k_end; wrow_close) | walk1 | (dsimp only; walk1) | (leave1; walk_say "STEP leave1"; try dsimp only))
  · have hS' := strs_of (g := drawn) (by rw [hl', List.size_toArray, IntsAre.length (by assumption)]) hr'
    clear hr'
    repeat' (first | (k_unfold; (try dsimp only)) | (k_end; wrow_close) | walk1 | (dsimp only; walk1) | (leave1; walk_say "STEP leave1"; try dsimp only))
    have hj9 := join_few ns
    repeat' (first | (k_unfold; (try dsimp only)) | (k_end; wrow_close) | walk1 | (dsimp only; walk1) | (leave1; walk_say "STEP leave1"; try dsimp only))
    (rename News _ _ _ _ => lN')
    exact hq _ _ _ _ (by assumption) (fun p hp => lN' p (.tail _ (.tail _ hp))) (by assumption)
end Mine

end
/-! part St1 -/
section
open PySem PySem.W PyProof.Rows PySem.Calls PySem.Spec PyProof.V
namespace Mine
noncomputable def escS (x : Str) : Str := if x = Str.ofString "\"" ∨ x = Str.ofString "\\" then Str.ofString "\\" ++ x else x
theorem signs_four : ∀ T ∈ allTexts, ∀ x ∈ signs T, x ∈ four := by decide +kernel
theorem marked_is : ∀ T ∈ allTexts, Str.ofString "p=\"" ++ Txt.join (Str.ofString "") ((signs T).map escS) ++ Str.ofString "\"" = markS T := by decide +kernel
theorem texts_len : ∀ T ∈ allTexts, T.length ≤ 6 := by decide +kernel
theorem signs_few : ∀ T ∈ allTexts, ((signs T).map escS).length ≤ 1000 := by decide +kernel
theorem signs_short : ∀ T ∈ allTexts, ∀ x ∈ (signs T).map escS, x.length ≤ 100 := by decide +kernel
theorem joined_len : ∀ T ∈ allTexts, (Txt.join (Str.ofString "") ((signs T).map escS)).length ≤ 40 := by decide +kernel
theorem four_cases {x : Str} (h : x ∈ four) : x = Str.ofString "a" ∨ x = Str.ofString "b" ∨ x = Str.ofString "\"" ∨ x = Str.ofString "\\" := by
  simpa [four] using h
local macro_rules | `(tactic| walk_at "eval ListComp") => `(tactic| (k_here; k_dflt (refine ListComp_S (F₀ := by k_asm) (by with_unfolding_all rfl) (by decide) (by rfl) (by decide) (by rfl) ?_)))
local macro_rules | `(tactic| walk_at "ElT") => `(tactic| (first | ((rename News _ _ _ _ => lN'); exact elt_end (by assumption) lN' (fun p hp => by repeat (first | exact hp | apply List.Mem.tail)) ⟨_, congrArg (fun z => Value.str z _) (by decide +kernel)⟩) | (exfalso; (rename List.isEmpty _ = _ => hz9); exact absurd hz9 (by decide +kernel))))
local macro_rules | `(tactic| walk_at "call builtin:str.join") => `(tactic| (k_here; k_dflt (refine strs_join (by k_asm) (by k_mem) (by assumption) (by decide +kernel) (signs_short _ (by assumption)) (signs_few _ (by assumption)) ?_); intro t' k'))
set_option maxRecDepth 100000 in
set_option maxHeartbeats 8000000 in
theorem law_st1 (w : World) {mean : ExcName → Option Value} {mg mb : Str → Option Value} {aa : Addr} {ccd : Value} {L C1 C2 : Addr} {base h₀ h9 : Heap} {tk9 : Nat} {m0 : Str → Option Value} {s : Shared} {Q : Flow → Shared → Prop} {E : Value → Shared → Prop} {news : List (Addr × Obj)}
    {T : Str} {o1 o2 : Obj} {tT : Tok}
    (B' : Below callerA base [] h₀) (X' : (Mine.hd.heap_39 w.params).In h₀) (T' : Top topProg looseG mean mg mb h₀)
    (F' : Fr h₀ L h9 m0)
    (N' : News h₀ L h9 ((C2, o2) :: (C1, o1) :: (244, tabObj #[]) :: []))
    (hT : T ∈ allTexts) (hd1 : o1.data = .cell (some (.str T tT))) (hC : @LT.lt Nat _ C1 C2) (hC1 : @LT.lt Nat _ 244 C1) (hC2 : @LT.lt Nat _ 244 C2)
    (hq : ∀ h tk t, Fr h₀ L h (fun y => if y = Str.ofString "marked" then some (.str (markS T) t) else m0 y) → News h₀ L h ((C2, o2) :: (C1, o1) :: (244, tabObj #[]) :: []) → Q .next { s with heap := h, toks := tk }) :
    wpAny (model PySem.Challenge.rw_pe0249_01.row.prog w) (callerA.deeper (lawEnv L aa ccd C1 C2)) (exec (stAt 23 1) (lawEnv L aa ccd C1 C2)) Q
      (fun e s' => wpAny (model PySem.Challenge.rw_pe0249_01.row.prog w) (callerA.deeper (lawEnv L aa ccd C1 C2)) (leaving (lawEnv L aa ccd C1 C2) e) (fun _ s'' => E e s'') (fun e' s'' => E e' s'') s') { s with heap := h9, toks := tk9 } := by
  have : Mine.hd.heap_39 w.params = Mine.hd.heap_39 w.params ∧ PySem.Challenge.rw_pe0249_01 = PySem.Challenge.rw_pe0249_01 := by
    k_fill
    exact ⟨rfl, rfl⟩
  clear this
  k_with_none
  w_top off
  dsimp only [lawEnv]
  with_unfolding_all show wpAny _ _ (exec (Stmt.Assign _ _ _) _) _ _ _
  have hsc : fnScope 23 = fnScope 23 := rfl
  conv at hsc => rhs; whnf
  rw [hsc]
  clear hsc
  (try k_fold)
  have hTl := texts_len T hT
  repeat' (first | (k_unfold; (try dsimp only)) | ((fail_if_success (with_reducible show SrcS _ _ _ _ _ _ _ _ _ _ _ _ _ _)); (first | walk1 | (dsimp only; walk1))))
  refine SrcS.intro (by rfl) (by k_asm) (by k_asm) (by rw [PySem.sizeLine_eq]; have : T.cps.size = T.length := rfl; omega) (fun g' => ?_)
  refine cmp_rest0 (signs T) (fun (x : Str) v => ∃ t, v = Value.str x t) escS (fun y (x : Str) => ∃ t, y = .str x t) True.intro (signs_len T) signs_rel (fun k' v' I' oI' C' oC' D' m' ys' h' tk' E' hk' hr' hC' hx' F' N' off' ne' => ?_) (fun ys' hl' hr' => ?_)
  · obtain ⟨t', rfl⟩ := hr'
    have hf := signs_four T hT _ hk'
    clear hk'
    rcases four_cases hf with rfl | rfl | rfl | rfl
    all_goals (clear hf)
    all_goals (repeat' (first | (k_unfold; (try dsimp only)) | (k_end; wrow_close) | walk1 | (dsimp only; walk1) | (leave1; walk_say "STEP leave1"; try dsimp only)))
  · have hS' := strs_of (g := escS) (by rw [hl', signs_len]) hr'
    clear hr'
    have hj9 := joined_len T hT
    have hm9 := marked_is T hT
    repeat' (first | (k_unfold; (try dsimp only)) | (k_end; wrow_close) | walk1 | (dsimp only; walk1) | (leave1; walk_say "STEP leave1"; try dsimp only))
    (rename Fr _ _ _ _ => lF')
    (rename News _ _ _ _ => lN')
    simp only [hm9] at lF'
    exact hq _ _ _ lF' (fun p hp => lN' p (.tail _ hp))
end Mine

end
/-! part St2 -/
section
open PySem PySem.W PyProof.Rows PySem.Calls PySem.Spec PyProof.V
namespace Mine
theorem quo_ok : ∀ T ∈ allTexts, (T.length ≤ 40 ∧ 0 < T.length) ∧ cleanV T = true ∧ (Txt.replace T (Str.ofString "\\") (Str.ofString "\\\\")).length ≤ 40 ∧ (Txt.replace (Txt.replace T (Str.ofString "\\") (Str.ofString "\\\\")) (Str.ofString "\"") (Str.ofString "\\\"")).length ≤ 60 ∧ (Str.ofString "p=\"" ++ Txt.replace (Txt.replace T (Str.ofString "\\") (Str.ofString "\\\\")) (Str.ofString "\"") (Str.ofString "\\\"") ++ Str.ofString "\"").length ≤ 1000 := by decide +kernel
local macro_rules | `(tactic| walk_at "call ref") => `(tactic| (k_here; (with_reducible show wpAny _ _ (call (Value.ref 228) _) _ _ _); k_dflt (refine' quo_call _ ?B ?F ?X ?N ?T ?k ?a1 ?a2 ?a3 ?a4 ?a5 ?a6 ?_; (case B => assumption); (case F => k_asm); (case X => assumption); (case N => k_asm); (case T => assumption); (case k => rfl); (case a1 => assumption); (case a2 => assumption); (case a3 => assumption); (case a4 => assumption); (case a5 => assumption); (case a6 => assumption)); intro D' T9' t1' t2' h' tk' F' N' l1 l2))
set_option maxRecDepth 100000 in
set_option maxHeartbeats 8000000 in
theorem law_st2 (w : World) {mean : ExcName → Option Value} {mg mb : Str → Option Value} {aa : Addr} {ccd : Value} {L C1 C2 : Addr} {base h₀ h9 : Heap} {tk9 : Nat} {m0 : Str → Option Value} {s : Shared} {Q : Flow → Shared → Prop} {E : Value → Shared → Prop} {news : List (Addr × Obj)}
    {T : Str} {o1 o2 : Obj} {tT : Tok}
    (B' : Below callerA base [] h₀) (X' : (Mine.hd.heap_39 w.params).In h₀) (T' : Top topProg looseG mean mg mb h₀)
    (F' : Fr h₀ L h9 m0)
    (N' : News h₀ L h9 ((C2, o2) :: (C1, o1) :: (244, tabObj #[]) :: []))
    (hT : T ∈ allTexts) (hd1 : o1.data = .cell (some (.str T tT))) (hC : @LT.lt Nat _ C1 C2) (hC1 : @LT.lt Nat _ 244 C1) (hC2 : @LT.lt Nat _ 244 C2)
    (hq : ∀ h tk (D TT : Addr) t1 t2, Fr h₀ L h (fun y => if y = Str.ofString "quoted" then some (.ref D) else m0 y) → News h₀ L h ((D, listOf #[Value.ref TT] 0) :: (TT, { cls := Value.type "tuple", data := Data.seq #[Value.str (Str.ofString "one") t1, Value.str (markS T) t2] }) :: (C2, o2) :: (C1, o1) :: (244, tabObj #[]) :: []) → @LT.lt Nat _ TT D → (∀ p ∈ (C2, o2) :: (C1, o1) :: (244, tabObj #[]) :: [], p.1 < TT) → Q .next { s with heap := h, toks := tk }) :
    wpAny (model PySem.Challenge.rw_pe0249_01.row.prog w) (callerA.deeper (lawEnv L aa ccd C1 C2)) (exec (stAt 23 2) (lawEnv L aa ccd C1 C2)) Q
      (fun e s' => wpAny (model PySem.Challenge.rw_pe0249_01.row.prog w) (callerA.deeper (lawEnv L aa ccd C1 C2)) (leaving (lawEnv L aa ccd C1 C2) e) (fun _ s'' => E e s'') (fun e' s'' => E e' s'') s') { s with heap := h9, toks := tk9 } := by
  have : Mine.hd.heap_39 w.params = Mine.hd.heap_39 w.params ∧ PySem.Challenge.rw_pe0249_01 = PySem.Challenge.rw_pe0249_01 := by
    k_fill
    exact ⟨rfl, rfl⟩
  clear this
  k_with_none
  w_top off
  dsimp only [lawEnv]
  with_unfolding_all show wpAny _ _ (exec (Stmt.Assign _ _ _) _) _ _ _
  have hsc : fnScope 23 = fnScope 23 := rfl
  conv at hsc => rhs; whnf
  rw [hsc]
  clear hsc
  (try k_fold)
  obtain ⟨⟨a1, a2⟩, a3, a4, a5, a6⟩ := quo_ok T hT
  repeat' (first | (k_unfold; (try dsimp only)) | (k_end; wrow_close) | walk1 | (dsimp only; walk1) | (leave1; walk_say "STEP leave1"; try dsimp only))
  (rename News _ _ _ _ => lN')
  exact hq _ _ _ _ _ _ (by assumption) lN' (by assumption) (by assumption)
end Mine

end
/-! part St3 -/
section
open PySem PySem.W PyProof.Rows PySem.Calls PySem.Spec PyProof.V
namespace Mine
set_option maxRecDepth 100000 in
set_option maxHeartbeats 8000000 in
theorem law_st3 (w : World) {mean : ExcName → Option Value} {mg mb : Str → Option Value} {aa : Addr} {ccd : Value} {L C1 C2 : Addr} {base h₀ h9 : Heap} {tk9 : Nat} {m0 : Str → Option Value} {s : Shared} {Q : Flow → Shared → Prop} {E : Value → Shared → Prop} {news : List (Addr × Obj)}
    {T : Str} {o1 o2 : Obj} {tM t1 t2 : Tok} {D TT : Addr}
    (B' : Below callerA base [] h₀) (X' : (Mine.hd.heap_39 w.params).In h₀) (T' : Top topProg looseG mean mg mb h₀)
    (F' : Fr h₀ L h9 (fun y => if y = (Str.ofString "marked") then some (.str (markS T) tM) else if y = (Str.ofString "quoted") then some (.ref D) else m0 y))
    (N' : News h₀ L h9 ((D, listOf #[Value.ref TT] 0) :: (TT, { cls := Value.type "tuple", data := Data.seq #[Value.str (Str.ofString "one") t1, Value.str (markS T) t2] }) :: (C2, o2) :: (C1, o1) :: (244, tabObj #[]) :: []))
    (hl : @LT.lt Nat _ TT D) (hll : @LT.lt Nat _ C2 TT ∧ @LT.lt Nat _ C1 TT ∧ @LT.lt Nat _ 244 TT) (hC : @LT.lt Nat _ C1 C2) (hC1 : @LT.lt Nat _ 244 C1) (hC2 : @LT.lt Nat _ 244 C2) (hML : (markS T).length ≤ 40) (hMO : PyData.strOk (markS T) = true)
    (hq : ∀ h tk, Fr h₀ L h (fun y => if y = Str.ofString "marked" then some (.str (markS T) tM) else if y = Str.ofString "quoted" then some (.ref D) else m0 y) → News h₀ L h ((D, listOf #[Value.ref TT] 0) :: (TT, { cls := Value.type "tuple", data := Data.seq #[Value.str (Str.ofString "one") t1, Value.str (markS T) t2] }) :: (C2, o2) :: (C1, o1) :: (244, tabObj #[]) :: []) → Q .next { s with heap := h, toks := tk }) :
    wpAny (model PySem.Challenge.rw_pe0249_01.row.prog w) (callerA.deeper (lawEnv L aa ccd C1 C2)) (exec (stAt 23 3) (lawEnv L aa ccd C1 C2)) Q
      (fun e s' => wpAny (model PySem.Challenge.rw_pe0249_01.row.prog w) (callerA.deeper (lawEnv L aa ccd C1 C2)) (leaving (lawEnv L aa ccd C1 C2) e) (fun _ s'' => E e s'') (fun e' s'' => E e' s'') s') { s with heap := h9, toks := tk9 } := by
  have : Mine.hd.heap_39 w.params = Mine.hd.heap_39 w.params ∧ PySem.Challenge.rw_pe0249_01 = PySem.Challenge.rw_pe0249_01 := by
    k_fill
    exact ⟨rfl, rfl⟩
  clear this
  k_with_none
  w_top off
  dsimp only [lawEnv]
  with_unfolding_all show wpAny _ _ (exec (Stmt.If _ _ _ _) _) _ _ _
  have hsc : fnScope 23 = fnScope 23 := rfl
  conv at hsc => rhs; whnf
  rw [hsc]
  clear hsc
  (try k_fold)
  have hok : ∀ d ∈ [Dat.tuple [Dat.str (Str.ofString "one"), Dat.str (markS T)]], kqdOk 8 d = true := by
    intro d hd
    rw [List.mem_singleton.mp hd]
    show (PyData.strOk (Str.ofString "one") && (PyData.strOk (markS T) && true)) = true
    rw [hMO]
    decide +kernel
  repeat' (first | (k_unfold; (try dsimp only)) | ((fail_if_success (with_reducible show wpAny _ _ (compareOp _ _ _) _ _ _)); (first | walk1 | (dsimp only; walk1))))
  k_here
  k_dflt (refine' kqd_ne (ds := [Dat.tuple [Dat.str (Str.ofString "one"), Dat.str (markS T)]]) (es := [Dat.tuple [Dat.str (Str.ofString "one"), Dat.str (markS T)]]) ?N ?a ?b ?c ?d (fun _ h => h) ?f ?g ?i ?j (fun _ h => h) hok hok ?n ?_; (case N => k_asm); (case a => k_mem); (case b => rfl); (case c => rfl); (case d => exact DatAll.cons (DatIn.tuple (by k_mem) (.cons (.str _ _) (.cons (.str _ _) .nil))) .nil); (case f => k_mem); (case g => rfl); (case i => rfl); (case j => exact DatAll.cons (DatIn.tuple (by k_mem) (.cons (.str _ _) (.cons (.str _ _) .nil))) .nil); (case n => ke_room))
  (simp only [eq_self, decide_true, Bool.not_true])
  repeat' (first | (k_unfold; (try dsimp only)) | (k_end; wrow_close) | walk1 | (dsimp only; walk1) | (leave1; walk_say "STEP leave1"; try dsimp only))
  (rename News _ _ _ _ => lN')
  exact hq _ _ (by assumption) (fun p hp => lN' p (.tail _ (.tail _ hp)))
end Mine

end
/-! part St4 -/
section
open PySem PySem.W PyProof.Rows PySem.Calls PySem.Spec PyProof.V
namespace Mine
noncomputable def inner (T : Str) : Str := Txt.slice (markS T) (some 3) (some (-1))
theorem rep_ok : ∀ T ∈ allTexts, ((inner T).length ≤ 40 ∧ (markS T).length ≤ 40 ∧ 4 ≤ (markS T).length) ∧ swapOk (inner T) (Str.ofString "\\\\") ∧ (swapS (inner T) (Str.ofString "\\\\") (Str.ofString "\x01")).length ≤ 100 ∧ swapOk (swapS (inner T) (Str.ofString "\\\\") (Str.ofString "\x01")) (Str.ofString "\\\"") ∧ (swapS (swapS (inner T) (Str.ofString "\\\\") (Str.ofString "\x01")) (Str.ofString "\\\"") (Str.ofString "\"")).length ≤ 100 ∧ swapOk (swapS (swapS (inner T) (Str.ofString "\\\\") (Str.ofString "\x01")) (Str.ofString "\\\"") (Str.ofString "\"")) (Str.ofString "\x01") := by
  unfold swapOk
  decide +kernel
theorem rep_is : ∀ T ∈ allTexts, rep3 (inner T) = T := by decide +kernel
local macro_rules | `(tactic| walk_at "call ref") => `(tactic| (k_here; (with_reducible show wpAny _ _ (call (Value.ref 59) _) _ _ _); k_dflt (refine' rep_call _ ?B ?F ?X ?N ?T ?k ?a1 ?a2 ?a3 ?a4 ?a5 ?a6 ?_; (case B => assumption); (case F => k_asm); (case X => assumption); (case N => k_asm); (case T => assumption); (case k => rfl); (case a1 => assumption); (case a2 => assumption); (case a3 => assumption); (case a4 => assumption); (case a5 => assumption); (case a6 => assumption)); intro t' h' tk' F' N'))
set_option maxRecDepth 100000 in
set_option maxHeartbeats 8000000 in
theorem law_st4 (w : World) {mean : ExcName → Option Value} {mg mb : Str → Option Value} {aa : Addr} {ccd : Value} {L C1 C2 : Addr} {base h₀ h9 : Heap} {tk9 : Nat} {m0 : Str → Option Value} {s : Shared} {Q : Flow → Shared → Prop} {E : Value → Shared → Prop} {news : List (Addr × Obj)}
    {T : Str} {o1 o2 : Obj} {tT tM : Tok}
    (B' : Below callerA base [] h₀) (X' : (Mine.hd.heap_39 w.params).In h₀) (T' : Top topProg looseG mean mg mb h₀)
    (F' : Fr h₀ L h9 (fun y => if y = (Str.ofString "marked") then some (.str (markS T) tM) else m0 y))
    (N' : News h₀ L h9 ((C2, o2) :: (C1, o1) :: (244, tabObj #[]) :: news))
    (hT : T ∈ allTexts) (hd1 : o1.data = .cell (some (.str T tT))) (hC : @LT.lt Nat _ C1 C2) (hC1 : @LT.lt Nat _ 244 C1) (hC2 : @LT.lt Nat _ 244 C2)
    (hq : ∀ h tk, Fr h₀ L h (fun y => if y = Str.ofString "marked" then some (.str (markS T) tM) else m0 y) → News h₀ L h ((C2, o2) :: (C1, o1) :: (244, tabObj #[]) :: news) → Q .next { s with heap := h, toks := tk }) :
    wpAny (model PySem.Challenge.rw_pe0249_01.row.prog w) (callerA.deeper (lawEnv L aa ccd C1 C2)) (exec (stAt 23 4) (lawEnv L aa ccd C1 C2)) Q
      (fun e s' => wpAny (model PySem.Challenge.rw_pe0249_01.row.prog w) (callerA.deeper (lawEnv L aa ccd C1 C2)) (leaving (lawEnv L aa ccd C1 C2) e) (fun _ s'' => E e s'') (fun e' s'' => E e' s'') s') { s with heap := h9, toks := tk9 } := by
  have : Mine.hd.heap_39 w.params = Mine.hd.heap_39 w.params ∧ PySem.Challenge.rw_pe0249_01 = PySem.Challenge.rw_pe0249_01 := by
    k_fill
    exact ⟨rfl, rfl⟩
  clear this
  k_with_none
  w_top off
  dsimp only [lawEnv]
  with_unfolding_all show wpAny _ _ (exec (Stmt.If _ _ _ _) _) _ _ _
  have hsc : fnScope 23 = fnScope 23 := rfl
  conv at hsc => rhs; whnf
  rw [hsc]
  clear hsc
  (try k_fold)
  obtain ⟨⟨a1, a0, a00⟩, a2, a3, a4, a5, a6⟩ := rep_ok T hT
  have hr9 := rep_is T hT
  unfold inner at *
  repeat' (first | (k_unfold; (try dsimp only)) | ((fail_if_success (with_reducible show wpAny _ _ (call (Value.ref 59) _) _ _ _)); (first | walk1 | (dsimp only; walk1))))
  k_here
  k_dflt (refine rep_call w (a := Txt.slice (markS T) (some 3) (some (-1))) B' (by k_asm) X' (by k_asm) T' rfl a1 a2 a3 a4 a5 a6 ?_)
  intro t9 h9 k9 F9 N9
  rw [hr9]
  repeat' (first | (k_unfold; (try dsimp only)) | (k_end; wrow_close) | walk1 | (dsimp only; walk1) | (leave1; walk_say "STEP leave1"; try dsimp only))
  · exfalso
    (rename (_ != _) = true => hz9)
    simp at hz9
  · exact hq _ _ (by assumption) (by assumption)
end Mine

end
/-! part St5 -/
section
open PySem PySem.W PyProof.Rows PySem.Calls PySem.Spec PyProof.V
namespace Mine
theorem range_rel {a : Int} {n : Nat} : ∀ i v, i < n → (∃ t, v = Value.int (a + (i : Int)) t) → ∃ k, (rangeKs a n)[i]? = some k ∧ ∃ t, v = .int k t := by
  rintro i v hi ⟨t, rfl⟩
  exact ⟨a + (i : Int), by simp [rangeKs, hi], t, rfl⟩
/-- the crams of a text -/
noncomputable def crams (T : Str) : List Str := (rangeKs 3 (T.length - 3)).map (cramS T)
noncomputable def textsOf (T : Str) : List Str := crams T ++ [T, markS T]
theorem len_ok : ∀ T ∈ allTexts, 4 ≤ T.length ∧ T.length ≤ 6 := by decide +kernel
local macro_rules | `(tactic| walk_at "eval ListComp") => `(tactic| (k_here; k_dflt (refine LCg.ListComp_U (F₀ := by k_asm) (by with_unfolding_all rfl) (by decide) (by rfl) (by decide) (by rfl) ?_)))
local macro_rules | `(tactic| walk_at "ElT") => `(tactic| (first | ((rename News _ _ _ _ => lN'); exact elt_end (by assumption) lN' (fun p hp => by repeat (first | exact hp | apply List.Mem.tail)) ⟨_, rfl⟩)))
local macro_rules | `(tactic| walk_at "call ref") => `(tactic| (k_here; (with_reducible show wpAny _ _ (call (Value.ref 66) _) _ _ _); k_dflt (refine' cram_call _ ?B ?F ?X ?N ?T ?k ?a1 ?a2 ?a3 ?a4 ?a5 ?_; (case B => assumption); (case F => k_asm); (case X => assumption); (case N => k_asm); (case T => assumption); (case k => rfl); (case a1 => omega); (case a2 => omega); (case a3 => omega); (case a4 => decide); (case a5 => decide)); intro t' h' tk' F' N'))
set_option maxRecDepth 100000 in
set_option maxHeartbeats 8000000 in
theorem law_st5 (w : World) {mean : ExcName → Option Value} {mg mb : Str → Option Value} {aa : Addr} {ccd : Value} {L C1 C2 : Addr} {base h₀ h9 : Heap} {tk9 : Nat} {m0 : Str → Option Value} {s : Shared} {Q : Flow → Shared → Prop} {E : Value → Shared → Prop} {news : List (Addr × Obj)}
    {T : Str} {o1 o2 : Obj} {v2 : Option Value} {tT t1 t2 : Tok} {D TT : Addr}
    (B' : Below callerA base [] h₀) (X' : (Mine.hd.heap_39 w.params).In h₀) (T' : Top topProg looseG mean mg mb h₀)
    (F' : Fr h₀ L h9 (fun y => if y = (Str.ofString "quoted") then some (.ref D) else m0 y))
    (N' : News h₀ L h9 ((D, listOf #[Value.ref TT] 0) :: (TT, { cls := Value.type "tuple", data := Data.seq #[Value.str (Str.ofString "one") t1, Value.str (markS T) t2] }) :: (C2, o2) :: (C1, o1) :: (244, tabObj #[]) :: []))
    (hT : T ∈ allTexts) (hd1 : o1.data = .cell (some (.str T tT))) (hd2 : o2.data = .cell v2) (hl : @LT.lt Nat _ TT D) (hll : @LT.lt Nat _ C2 TT ∧ @LT.lt Nat _ C1 TT ∧ @LT.lt Nat _ 244 TT) (hlD : @LT.lt Nat _ C2 D ∧ @LT.lt Nat _ C1 D ∧ @LT.lt Nat _ 244 D) (hC : @LT.lt Nat _ C1 C2) (hC1 : @LT.lt Nat _ 244 C1) (hC2 : @LT.lt Nat _ 244 C2)
    (hq : ∀ h tk (TX : Addr) vts n o2', Fr h₀ L h (fun y => if y = Str.ofString "quoted" then some (.ref D) else m0 y) → News h₀ L h ((TX, listOf (List.toArray vts) n) :: (C2, o2') :: (C1, o1) :: (244, tabObj #[]) :: []) → o2'.data = .cell (some (.ref TX)) → StrsAre vts (textsOf T) → @LT.lt Nat _ C2 TX → @LT.lt Nat _ C1 TX → @LT.lt Nat _ 244 TX → Q .next { s with heap := h, toks := tk }) :
    wpAny (model PySem.Challenge.rw_pe0249_01.row.prog w) (callerA.deeper (lawEnv L aa ccd C1 C2)) (exec (stAt 23 5) (lawEnv L aa ccd C1 C2)) Q
      (fun e s' => wpAny (model PySem.Challenge.rw_pe0249_01.row.prog w) (callerA.deeper (lawEnv L aa ccd C1 C2)) (leaving (lawEnv L aa ccd C1 C2) e) (fun _ s'' => E e s'') (fun e' s'' => E e' s'') s') { s with heap := h9, toks := tk9 } := by
  have : Mine.hd.heap_39 w.params = Mine.hd.heap_39 w.params ∧ PySem.Challenge.rw_pe0249_01 = PySem.Challenge.rw_pe0249_01 := by
    k_fill
    exact ⟨rfl, rfl⟩
  clear this
  k_with_none
  w_top off
  dsimp only [lawEnv]
  with_unfolding_all show wpAny _ _ (exec (Stmt.Assign _ _ _) _) _ _ _
  have hsc : fnScope 23 = fnScope 23 := rfl
  conv at hsc => rhs; whnf
  rw [hsc]
  clear hsc
  (try k_fold)
  obtain ⟨a1, a2⟩ := len_ok T hT
  repeat' (first | (k_unfold; (try dsimp only)) | ((fail_if_success (with_reducible show LCg.CompSrc _ _ _ _ _ _ _ _ _ _ _ _ _ _)); (first | walk1 | (dsimp only; walk1))))
  (rename IsRange _ _ _ _ _ _ _ _ => rgX)
  have hl3 : T.length = 4 ∨ T.length = 5 ∨ T.length = 6 := by omega
  have hsm : Builtin.Range.small 3 (T.length : Int) 1 = true := small_one (by omega) (by omega) (by omega) (by omega)
  have hrn : Builtin.Range.rangeSize 3 (T.length : Int) 1 = ((T.length - 3 : Nat) : Int) := by
    unfold Builtin.Range.rangeSize
    split
    · split <;> omega
    · omega
  (k_here; k_dflt ((refine LCg.CompSrc.range (by rfl) (by k_asm) (by k_asm) rgX hsm hrn (by rw [PySem.sizeLine_eq]; omega) ?_); intro g'; (refine cmp_rest0 (rangeKs 3 (T.length - 3)) (fun (k : Int) v => ∃ t, v = Value.int k t) (cramS T) (fun y (x : Str) => ∃ t, y = .str x t) True.intro (rangeKs_length _ _) range_rel (fun k' v' I' oI' C' oC' D' m' ys' h' tk' E' hk' hr' hC' hx' F' N' off' ne' => ?_) (fun ys' hl' hr' => ?_))))
  · obtain ⟨t', rfl⟩ := hr'
    have hb9 := mem_rangeKs hk'
    have hb8 : k' < (T.length : Int) := by omega
    repeat' (first | (k_unfold; (try dsimp only)) | (k_end; wrow_close) | walk1 | (dsimp only; walk1) | (leave1; walk_say "STEP leave1"; try dsimp only))
  · have hS' := strs_of (g := cramS T) (by rw [hl', rangeKs_length]) hr'
    clear hr'
    repeat' (first | (k_unfold; (try dsimp only)) | (k_end; wrow_close) | walk1 | (dsimp only; walk1) | (leave1; walk_say "STEP leave1"; try dsimp only))
    (rename News _ _ _ _ => lN')
    k_here
    k_dflt (refine add_strs (by k_asm) lN' (.tail _ (.head _)) (.head _) hS' (.cons _ _ (.cons _ _ .nil)) (by simp only [List.length_map, rangeKs_length, List.length_cons, List.length_nil]; omega) ?_)
    clear lN'
    intro D9 w9 h9' F9 N9 l9 S9
    have c1 := l9 (C1, o1) (by simp)
    have c2 := l9 (C2, o2) (by simp)
    have c3 := l9 (244, tabObj #[]) (by simp)
    have N10 : News h₀ L h9' ((D9, listOf (List.toArray w9) 0) :: (C2, o2) :: (C1, o1) :: (244, tabObj #[]) :: []) := fun p hp => N9 p (by
      rcases List.mem_cons.mp hp with e | hp
      · exact e ▸ .head _
      · exact .tail _ (.tail _ (.tail _ (.tail _ (.tail _ hp)))))
    clear N9 l9
    have c1 : @LT.lt Nat _ C1 D9 := c1
    have c2 : @LT.lt Nat _ C2 D9 := c2
    have c3 : @LT.lt Nat _ 244 D9 := c3
    repeat' (first | (k_unfold; (try dsimp only)) | (k_end; wrow_close) | walk1 | (dsimp only; walk1) | (leave1; walk_say "STEP leave1"; try dsimp only))
    (rename News _ _ _ _ => lN')
    (with_reducible rename Obj.data _ = Data.cell _ => d9)
    exact hq _ _ _ _ _ _ (by assumption) lN' d9 S9 c2 c1 c3
end Mine

end
/-! part St6 -/
section
open PySem PySem.W PyProof.Rows PySem.Calls PySem.Spec PyProof.V
namespace Mine
theorem due_is : ∀ T ∈ allTexts, (T.length = 4 → [dueS T 0 0] = crams T) ∧ (T.length = 5 → [dueS T 0 0, dueS T 0 1] = crams T) ∧ (T.length = 6 → [dueS T 0 0, dueS T 0 1, dueS T 1 1] = crams T) := by decide +kernel
theorem cram_ok : ∀ T ∈ allTexts, ∀ x ∈ crams T, PyData.strOk x = true := by decide +kernel
theorem strs_take {vs : List Value} {T : Str} (h : StrsAre vs (textsOf T)) : StrsAre (vs.take (T.length - 3)) (crams T) := by
  have := h.take' (T.length - 3)
  have e : (textsOf T).take (T.length - 3) = crams T := by
    have hl : (crams T).length = T.length - 3 := by simp [crams, rangeKs_length]
    unfold textsOf
    rw [← hl, List.take_left]
  rwa [e] at this
set_option maxRecDepth 100000 in
theorem due_callT (w : World) {mean : ExcName → Option Value} {mg mb : Str → Option Value} {dp un : Nat} {gd : Option (List Code)} {cn : Str} {csc : Scope} {aa : Addr} {ccd : Value} {cl : List (Str × Addr)} {outer : List Env} {A₀ : Around} {base h₀ : Heap} {L : Addr} {m : Str → Option Value} {s : Shared} {Q E : Value → Shared → Prop}
    {news : List (Addr × Obj)}
    {a : Str} {ta : Tok}
    (B₀ : Below A₀ base outer h₀) (F₀ : Fr h₀ L s.heap m) (X₀ : (Mine.hd.heap_39 w.params).In h₀) (N₀ : News h₀ L s.heap news) (T₀ : Top topProg looseG mean mg mb h₀) (hkind : csc.kind = ScopeKind.function)
    (hT : a ∈ allTexts) (hdp : dp + 1 < recursionLimit) (hun : un + 8 < cLine)
    (hret : ∀ (D : Addr) (vs : List Value) (n : Nat) (h' : Heap) (tk' : Nat), Fr h₀ L h' m → News h₀ L h' ((D, listOf vs.toArray n) :: news) → (∀ p ∈ news, p.1 < D) → StrsAre vs (crams a) → Q (.ref D) { s with heap := h', toks := tk' }) :
    wpAny (model PySem.Challenge.rw_pe0249_01.row.prog w) (ktrTop dp un gd cn csc L aa ccd cl outer) (call (.ref 235) [.str a ta]) Q E s := by
  obtain ⟨d4, d5, d6⟩ := due_is a hT
  have hl := len_ok a hT
  exact due_call w B₀ F₀ X₀ N₀ T₀ hkind (by omega) (by omega) d4 d5 d6 hdp hun hret
set_option maxRecDepth 100000 in
set_option maxHeartbeats 8000000 in
theorem law_st6 (w : World) {mean : ExcName → Option Value} {mg mb : Str → Option Value} {aa : Addr} {ccd : Value} {L C1 C2 : Addr} {base h₀ h9 : Heap} {tk9 : Nat} {m0 : Str → Option Value} {s : Shared} {Q : Flow → Shared → Prop} {E : Value → Shared → Prop} {news : List (Addr × Obj)}
    {T : Str} {o1 o2 : Obj} {vts : List Value} {n : Nat} {tT : Tok} {TX : Addr}
    (B' : Below callerA base [] h₀) (X' : (Mine.hd.heap_39 w.params).In h₀) (T' : Top topProg looseG mean mg mb h₀)
    (F' : Fr h₀ L h9 m0)
    (N' : News h₀ L h9 ((TX, listOf (List.toArray vts) n) :: (C2, o2) :: (C1, o1) :: (244, tabObj #[]) :: []))
    (hT : T ∈ allTexts) (hd1 : o1.data = .cell (some (.str T tT))) (hd2 : o2.data = .cell (some (.ref TX))) (hTs : StrsAre vts (textsOf T)) (hl : @LT.lt Nat _ C2 TX ∧ @LT.lt Nat _ C1 TX ∧ @LT.lt Nat _ 244 TX) (hC : @LT.lt Nat _ C1 C2) (hC1 : @LT.lt Nat _ 244 C1) (hC2 : @LT.lt Nat _ 244 C2)
    (hq : ∀ h tk, Fr h₀ L h m0 → News h₀ L h ((TX, listOf (List.toArray vts) n) :: (C2, o2) :: (C1, o1) :: (244, tabObj #[]) :: []) → Q .next { s with heap := h, toks := tk }) :
    wpAny (model PySem.Challenge.rw_pe0249_01.row.prog w) (callerA.deeper (lawEnv L aa ccd C1 C2)) (exec (stAt 23 6) (lawEnv L aa ccd C1 C2)) Q
      (fun e s' => wpAny (model PySem.Challenge.rw_pe0249_01.row.prog w) (callerA.deeper (lawEnv L aa ccd C1 C2)) (leaving (lawEnv L aa ccd C1 C2) e) (fun _ s'' => E e s'') (fun e' s'' => E e' s'') s') { s with heap := h9, toks := tk9 } := by
  have : Mine.hd.heap_39 w.params = Mine.hd.heap_39 w.params ∧ PySem.Challenge.rw_pe0249_01 = PySem.Challenge.rw_pe0249_01 := by
    k_fill
    exact ⟨rfl, rfl⟩
  clear this
  k_with_none
  w_top off
  dsimp only [lawEnv]
  with_unfolding_all show wpAny _ _ (exec (Stmt.If _ _ _ _) _) _ _ _
  have hsc : fnScope 23 = fnScope 23 := rfl
  conv at hsc => rhs; whnf
  rw [hsc]
  clear hsc
  (try k_fold)
  obtain ⟨a1, a2⟩ := len_ok T hT
  repeat' (first | (k_unfold; (try dsimp only)) | (k_end; wrow_close) | walk1 | (dsimp only; walk1) | (leave1; walk_say "STEP leave1"; try dsimp only))
  have hlv : vts.length = T.length - 1 := by rw [hTs.length]; simp only [textsOf, crams, List.length_append, List.length_map, rangeKs_length, List.length_cons, List.length_nil]; omega
  (rename Fr _ _ _ _ => lF')
  (rename News _ _ _ _ => lN')
  refine slice_last2 (s := ⟨_, _, _, _, _⟩) (hs := by with_unfolding_all rfl) (ht := by intro _; with_unfolding_all rfl) lF' lN' (.head _) (by omega) (by omega) ?_
  intro D9 h9' F9 N9 l9
  clear lF' lN'
  have S8 : StrsAre (vts.take (vts.length - 2)) (crams T) := by
    rw [show vts.length - 2 = T.length - 3 by omega]
    exact strs_take hTs
  repeat' (first | (k_unfold; (try dsimp only)) | ((fail_if_success (with_reducible show wpAny _ _ (call (Value.ref 235) _) _ _ _)); (first | walk1 | (dsimp only; walk1))))
  k_here
  k_dflt (refine due_callT w B' (by k_asm) X' (by k_asm) T' rfl hT (by decide) (by decide) ?_)
  intro D8 v8 n8 h8 k8 F8 N8 l8 S9
  clear F9 N9
  k_here
  k_dflt (refine ne_strs N8 (.tail _ (.head _)) (.head _) S8 S9 (cram_ok T hT) rfl (by ke_room) ?_)
  repeat' (first | (k_unfold; (try dsimp only)) | (k_end; wrow_close) | walk1 | (dsimp only; walk1) | (leave1; walk_say "STEP leave1"; try dsimp only))
  exact hq _ _ (by assumption) (fun p hp => N8 p (.tail _ (.tail _ hp)))
end Mine

end
/-! part St7 -/
section
open PySem PySem.W PyProof.Rows PySem.Calls PySem.Spec PyProof.V
namespace Mine
/-- the places on the road -/
noncomputable def placesOf (T : Str) : List Int := (rangeKs 3 (T.length - 3)).map (fun k => 2 * k) ++ [6 + 2 * (T.length : Int), 6 + 2 * ((markS T).length : Int)]
theorem and3 {a b c d : Prop} (h : a ∧ b ∧ c ∧ d) : c := h.2.2.1
theorem mark_len : ∀ T ∈ allTexts, (markS T).length ≤ 40 := by decide +kernel
local macro_rules | `(tactic| walk_at "eval ListComp") => `(tactic| (k_here; k_dflt (refine LCg.ListComp_U (F₀ := by k_asm) (by with_unfolding_all rfl) (by decide) (by rfl) (by decide) (by rfl) ?_)))
local macro_rules | `(tactic| walk_at "ElT") => `(tactic| (first | ((rename News _ _ _ _ => lN'); exact elt_end (by assumption) lN' (fun p hp => by repeat (first | exact hp | apply List.Mem.tail)) ⟨_, rfl⟩)))
set_option maxRecDepth 100000 in
set_option maxHeartbeats 8000000 in
theorem law_st7 (w : World) {mean : ExcName → Option Value} {mg mb : Str → Option Value} {aa : Addr} {ccd : Value} {L C1 C2 : Addr} {base h₀ h9 : Heap} {tk9 : Nat} {m0 : Str → Option Value} {s : Shared} {Q : Flow → Shared → Prop} {E : Value → Shared → Prop} {news : List (Addr × Obj)}
    {T : Str} {o1 o2 : Obj} {vts : List Value} {n : Nat} {tT tM : Tok} {TX : Addr}
    (B' : Below callerA base [] h₀) (X' : (Mine.hd.heap_39 w.params).In h₀) (T' : Top topProg looseG mean mg mb h₀)
    (F' : Fr h₀ L h9 (fun y => if y = (Str.ofString "marked") then some (.str (markS T) tM) else m0 y))
    (N' : News h₀ L h9 ((TX, listOf (List.toArray vts) n) :: (C2, o2) :: (C1, o1) :: (244, tabObj #[]) :: []))
    (hT : T ∈ allTexts) (hd1 : o1.data = .cell (some (.str T tT))) (hd2 : o2.data = .cell (some (.ref TX))) (hTs : StrsAre vts (textsOf T)) (hl : @LT.lt Nat _ C2 TX ∧ @LT.lt Nat _ C1 TX ∧ @LT.lt Nat _ 244 TX) (hC : @LT.lt Nat _ C1 C2) (hC1 : @LT.lt Nat _ 244 C1) (hC2 : @LT.lt Nat _ 244 C2)
    (hq : ∀ h tk (PL : Addr) vps k, Fr h₀ L h (fun y => if y = Str.ofString "places" then some (.ref PL) else if y = Str.ofString "marked" then some (.str (markS T) tM) else m0 y) → News h₀ L h ((PL, listOf (List.toArray vps) k) :: (TX, listOf (List.toArray vts) n) :: (C2, o2) :: (C1, o1) :: (244, tabObj #[]) :: []) → IntsAre vps (placesOf T) → @LT.lt Nat _ TX PL → Q .next { s with heap := h, toks := tk }) :
    wpAny (model PySem.Challenge.rw_pe0249_01.row.prog w) (callerA.deeper (lawEnv L aa ccd C1 C2)) (exec (stAt 23 7) (lawEnv L aa ccd C1 C2)) Q
      (fun e s' => wpAny (model PySem.Challenge.rw_pe0249_01.row.prog w) (callerA.deeper (lawEnv L aa ccd C1 C2)) (leaving (lawEnv L aa ccd C1 C2) e) (fun _ s'' => E e s'') (fun e' s'' => E e' s'') s') { s with heap := h9, toks := tk9 } := by
  have : Mine.hd.heap_39 w.params = Mine.hd.heap_39 w.params ∧ PySem.Challenge.rw_pe0249_01 = PySem.Challenge.rw_pe0249_01 := by
    k_fill
    exact ⟨rfl, rfl⟩
  clear this
  k_with_none
  w_top off
  dsimp only [lawEnv]
  with_unfolding_all show wpAny _ _ (exec (Stmt.Assign _ _ _) _) _ _ _
  have hsc : fnScope 23 = fnScope 23 := rfl
  conv at hsc => rhs; whnf
  rw [hsc]
  clear hsc
  (try k_fold)
  obtain ⟨a1, a2⟩ := len_ok T hT
  have a3 := mark_len T hT
  repeat' (first | (k_unfold; (try dsimp only)) | ((fail_if_success (with_reducible show LCg.CompSrc _ _ _ _ _ _ _ _ _ _ _ _ _ _)); (first | walk1 | (dsimp only; walk1))))
  (rename IsRange _ _ _ _ _ _ _ _ => rgX)
  have hl3 : T.length = 4 ∨ T.length = 5 ∨ T.length = 6 := by omega
  have hsm : Builtin.Range.small 3 (T.length : Int) 1 = true := small_one (by omega) (by omega) (by omega) (by omega)
  have hrn : Builtin.Range.rangeSize 3 (T.length : Int) 1 = ((T.length - 3 : Nat) : Int) := by
    unfold Builtin.Range.rangeSize
    split
    · split <;> omega
    · omega
  (k_here; k_dflt ((refine LCg.CompSrc.range (by rfl) (by k_asm) (by k_asm) rgX hsm hrn (by rw [PySem.sizeLine_eq]; omega) ?_); intro g'; (refine cmp_rest0 (rangeKs 3 (T.length - 3)) (fun (k : Int) v => ∃ t, v = Value.int k t) (fun k : Int => 2 * k) (fun y (x : Int) => ∃ t, y = .int x t) True.intro (rangeKs_length _ _) range_rel (fun k' v' I' oI' C' oC' D' m' ys' h' tk' E' hk' hr' hC' hx' F' N' off' ne' => ?_) (fun ys' hl' hr' => ?_))))
  · obtain ⟨t', rfl⟩ := hr'
    have hb9 := mem_rangeKs hk'
    have hb8 : k' < (T.length : Int) := by omega
    repeat' (first | (k_unfold; (try dsimp only)) | (k_end; wrow_close) | walk1 | (dsimp only; walk1) | (leave1; walk_say "STEP leave1"; try dsimp only))
  · have hS' := ints_of2 (g := fun k : Int => 2 * k) (by rw [hl', rangeKs_length]) hr'
    clear hr'
    repeat' (first | (k_unfold; (try dsimp only)) | (k_end; wrow_close) | walk1 | (dsimp only; walk1) | (leave1; walk_say "STEP leave1"; try dsimp only))
    (rename News _ _ _ _ => lN')
    (rename IntsAre _ _ => i9)
    exact hq _ _ _ _ _ (by assumption) (fun p hp => by
      rcases List.mem_cons.mp hp with e | hp
      · exact lN' p (e ▸ .head _)
      · exact lN' p (.tail _ (.tail _ (.tail _ hp)))) i9 (and3 (by assumption))
end Mine

end
/-! part St9 -/
section
open PySem PySem.W PyProof.Rows PySem.Calls PySem.Spec PyProof.V
namespace Mine
theorem nsw {h₀ h : Heap} {L : Addr} {a b c : Addr × Obj} {l : List (Addr × Obj)} (N : News h₀ L h (a :: b :: c :: l)) : News h₀ L h (c :: a :: l) := fun p hp => N p (by
  simp only [List.mem_cons] at hp ⊢
  rcases hp with e | e | e <;> simp [e])
theorem st9_fin {h₀ h : Heap} {L R X D H OR TX DR : Addr} {oR oH oX oD oO oT oDR : Obj} {own base : List (Addr × Obj)} {vs : List Value} {ds : List Dat}
    (N : News h₀ L h ((R, oR) :: (H, oH) :: (X, oX) :: (D, oD) :: (OR, oO) :: (own ++ (TX, oT) :: (DR, oDR) :: base)))
    (hda : DatAll ((X, oX) :: (D, oD) :: (OR, oO) :: (own ++ (TX, oT) :: (DR, oDR) :: base)) vs ds)
    (of1 : OwnOff [(R, oR), (H, oH), (X, oX), (D, oD), (OR, oO)] (TX :: DR :: base.map (·.1))) (of2 : OwnOff own (TX :: DR :: base.map (·.1))) (hm : 244 ∈ base.map (·.1)) (hd : @Ne Nat 244 DR) :
    ∃ own', DatAll ((H, oH) :: (X, oX) :: (D, oD) :: (OR, oO) :: (TX, oT) :: (base ++ own')) vs ds ∧ News h₀ L h ((H, oH) :: (X, oX) :: (D, oD) :: (OR, oO) :: (TX, oT) :: (base ++ own')) ∧
      (244 ≠ H ∧ 244 ≠ X ∧ 244 ≠ D ∧ 244 ≠ OR ∧ ∀ p ∈ own', p.1 ≠ 244) := by
  have hm' : (244 : Addr) ∈ TX :: DR :: base.map (·.1) := .tail _ (.tail _ hm)
  refine ⟨(DR, oDR) :: own, DatAll.mono (fun p hp => ?_) hda, fun p hp => N p ?_, ?_, ?_, ?_, ?_, ?_⟩
  · simp only [List.mem_cons, List.mem_append] at hp ⊢
    rcases hp with e | e | e | e | e | e | e <;> simp [e]
  · simp only [List.mem_cons, List.mem_append] at hp ⊢
    rcases hp with e | e | e | e | e | e | e | e <;> simp [e]
  · exact (of1 (H, oH) (by simp) 244 hm').symm
  · exact (of1 (X, oX) (by simp) 244 hm').symm
  · exact (of1 (D, oD) (by simp) 244 hm').symm
  · exact (of1 (OR, oO) (by simp) 244 hm').symm
  · intro p hp
    rcases List.mem_cons.mp hp with e | hp
    · rw [e]; exact hd.symm
    · exact of2 p hp 244 hm'
theorem and4 {a b c d e : Prop} (h : a ∧ b ∧ c ∧ d ∧ e) : e := h.2.2.2.2
theorem cleans : ∀ T ∈ allTexts, ∀ i ∈ List.range (textsOf T).length, cleanV ((textsOf T).getD i default) = true ∧ ((textsOf T).getD i default).length ≤ 40 := by decide +kernel
theorem clean_at {T : Str} (hT : T ∈ allTexts) : ∀ p : Int, 0 ≤ p → p < ((textsOf T).length : Int) → cleanV (txtN (textsOf T) p) = true ∧ (txtN (textsOf T) p).length ≤ 40 := by
  intro p h0 h1
  exact cleans T hT p.toNat (List.mem_range.mpr (by omega))
set_option maxRecDepth 100000 in
set_option maxHeartbeats 8000000 in
theorem law_st9 (w : World) {mean : ExcName → Option Value} {mg mb : Str → Option Value} {aa : Addr} {ccd : Value} {L C1 C2 : Addr} {base h₀ h9 : Heap} {tk9 : Nat} {m0 : Str → Option Value} {s : Shared} {Q : Flow → Shared → Prop} {E : Value → Shared → Prop} {news : List (Addr × Obj)}
    {T : Str} {o1 o2 : Obj} {vs vts : List Value} {ns : List Int} {n : Nat} {TX SC : Addr}
    (B' : Below callerA base [] h₀) (X' : (Mine.hd.heap_39 w.params).In h₀) (T' : Top topProg looseG mean mg mb h₀)
    (F' : Fr h₀ L h9 (fun y => if y = (Str.ofString "script") then some (.ref SC) else m0 y))
    (N' : News h₀ L h9 ((TX, listOf (List.toArray vts) n) :: (C2, o2) :: (C1, o1) :: (244, tabObj #[]) :: []))
    (hl : h₀.IsList SC vs.toArray) (hI : IntsAre vs ns) (hn : ns.length ≤ 63) (hT : T ∈ allTexts) (hd2 : o2.data = .cell (some (.ref TX))) (hTs : StrsAre vts (textsOf T)) (hlx : @LT.lt Nat _ C2 TX ∧ @LT.lt Nat _ C1 TX ∧ @LT.lt Nat _ 244 TX) (hC : @LT.lt Nat _ C1 C2) (hC1 : @LT.lt Nat _ 244 C1) (hC2 : @LT.lt Nat _ 244 C2)
    (hq : ∀ h tk (X D H OR : Addr) (tk0 : Tok) (vos vhs : List Value) (kh n2 : Nat) (os : List Int) (own : List (Addr × Obj)), os.Perm (rangeKs 0 (textsOf T).length) → IntsAre vos os → DatAll ((H, listOf (List.toArray vhs) kh) :: (X, instObj 217 D) :: (D, dictOf [{ hash := PyData.keyHash w.params (Str.ofString "_headers"), key := Value.str (Str.ofString "_headers") tk0, val := Value.ref H }] 1) :: (OR, listOf (List.toArray vos) n2) :: (TX, listOf (List.toArray vts) n) :: (C2, o2) :: (C1, o1) :: (244, tabObj #[]) :: own) vhs (os.map (hdrD (textsOf T))) →
      Fr h₀ L h (fun y => if y = Str.ofString "order" then some (.ref OR) else if y = Str.ofString "table" then some (.ref X) else if y = Str.ofString "script" then some (.ref SC) else m0 y) → News h₀ L h ((H, listOf (List.toArray vhs) kh) :: (X, instObj 217 D) :: (D, dictOf [{ hash := PyData.keyHash w.params (Str.ofString "_headers"), key := Value.str (Str.ofString "_headers") tk0, val := Value.ref H }] 1) :: (OR, listOf (List.toArray vos) n2) :: (TX, listOf (List.toArray vts) n) :: (C2, o2) :: (C1, o1) :: (244, tabObj #[]) :: own) →
      (244 ≠ H ∧ 244 ≠ X ∧ 244 ≠ D ∧ 244 ≠ OR ∧ ∀ p ∈ own, p.1 ≠ 244) → Q .next { s with heap := h, toks := tk }) :
    wpAny (model PySem.Challenge.rw_pe0249_01.row.prog w) (callerA.deeper (lawEnv L aa ccd C1 C2)) (exec (stAt 23 9) (lawEnv L aa ccd C1 C2)) Q
      (fun e s' => wpAny (model PySem.Challenge.rw_pe0249_01.row.prog w) (callerA.deeper (lawEnv L aa ccd C1 C2)) (leaving (lawEnv L aa ccd C1 C2) e) (fun _ s'' => E e s'') (fun e' s'' => E e' s'') s') { s with heap := h9, toks := tk9 } := by
  have : Mine.hd.heap_39 w.params = Mine.hd.heap_39 w.params ∧ PySem.Challenge.rw_pe0249_01 = PySem.Challenge.rw_pe0249_01 := by
    k_fill
    exact ⟨rfl, rfl⟩
  clear this
  k_with_none
  w_top off
  dsimp only [lawEnv]
  with_unfolding_all show wpAny _ _ (exec (Stmt.Assign _ _ _) _) _ _ _
  have hsc : fnScope 23 = fnScope 23 := rfl
  conv at hsc => rhs; whnf
  rw [hsc]
  clear hsc
  (try k_fold)
  obtain ⟨a1, a2⟩ := len_ok T hT
  have hlt : (textsOf T).length = T.length - 1 := by simp only [textsOf, crams, List.length_append, List.length_map, rangeKs_length, List.length_cons, List.length_nil]; omega
  repeat' (first | (k_unfold; (try dsimp only)) | ((fail_if_success (with_reducible show wpAny _ _ (call (Value.ref 242) _) _ _ _)); (first | walk1 | (dsimp only; walk1))))
  (rename Fr _ _ _ _ => lF')
  (rename News _ _ _ _ => lN')
  (rename IntsAre _ (List.map _ _) => i9)
  k_here
  k_dflt (refine laid_call w (news := (C2, o2) :: (C1, o1) :: (244, tabObj #[]) :: []) B' lF' X' (nsw lN') T' rfl hTs i9 (by omega) (by simp only [List.length_map, List.length_take]; omega) (clean_at hT) ?_)
  intro R X D H OR tk0 vos vhs kh nn os own h7 k7 hp9 hio hda F7 N7 of1 of2
  clear lF' lN'
  repeat' (first | (k_unfold; (try dsimp only)) | (k_end; wrow_close) | walk1 | (dsimp only; walk1) | (leave1; walk_say "STEP leave1"; try dsimp only))
  (rename News _ _ _ _ => lN')
  obtain ⟨own9, b1, b2, b3⟩ := st9_fin (base := (C2, o2) :: (C1, o1) :: (244, tabObj #[]) :: []) lN' hda of1 of2 (by simp) (and4 (by assumption))
  exact hq _ _ X D H OR tk0 vos vhs kh nn os own9 hp9 hio b1 (by assumption) b2 b3
end Mine

end
/-! part Ga1 -/
section
open PySem PySem.W PyProof.Rows PySem.Calls PySem.Spec PyProof.V
namespace Mine
theorem hdr_inv {L9 : List (Addr × Obj)} {v : Value} {Ts : List Str} {p : Int} (h : DatIn L9 v (hdrD Ts p)) : ∃ (B : Addr) (t1 t2 : Tok) (n : Nat), v = .ref B ∧ (B, ({ cls := .type "tuple", data := .seq #[.str (roadN p) t1, .str (txtN Ts p) t2] n } : Obj)) ∈ L9 := by
  unfold hdrD at h
  cases h with
  | tuple hm r =>
    cases r with
    | cons h1 r =>
      cases r with
      | cons h2 r =>
        cases r
        cases h1
        cases h2
        exact ⟨_, _, _, _, rfl, hm⟩
theorem dat_rel {L9 : List (Addr × Obj)} {g : Int → Dat} : ∀ {vs : List Value} {os : List Int}, DatAll L9 vs (os.map g) → ∀ i v, i < vs.toArray.size → vs.toArray[i]? = some v → ∃ p, os[i]? = some p ∧ DatIn L9 v (g p) := by
  intro vs os h i v hi hv
  have hl : vs.length = os.length := by have := h.length; simpa using this
  have hi' : i < os.length := by rw [List.size_toArray] at hi; omega
  obtain ⟨v', hv', hd⟩ := h.get (k := i) (by simpa using hi')
  have e : v' = v := by
    have : vs[i]? = some v := by simpa using hv
    rw [this] at hv'
    exact (Option.some.inj hv').symm
  subst e
  refine ⟨os[i], List.getElem?_eq_getElem hi', ?_⟩
  simpa using hd
theorem road_low (p : Int) : Txt.lower (roadN p) = Str.ofString "road" := by
  rcases road_case p with e | e | e <;> rw [e] <;> decide +kernel
theorem news_plus {h₀ h : Heap} {L : Addr} {q : Addr × Obj} {l : List (Addr × Obj)} (N : News h₀ L h l) (hq : q ∈ l) : News h₀ L h (q :: l) := fun p hp => by
  rcases List.mem_cons.mp hp with e | hp
  · exact e ▸ N q hq
  · exact N p hp
theorem up3 {x a b c : Addr} {l : List (Addr × Obj)} (h : @LT.lt Nat _ a x ∧ @LT.lt Nat _ b x ∧ @LT.lt Nat _ c x ∧ AllLt x l) : @LT.lt Nat _ a (x + 1) ∧ @LT.lt Nat _ b (x + 1) ∧ @LT.lt Nat _ c (x + 1) ∧ AllLt (x + 1) l :=
  ⟨Nat.lt_succ_of_lt h.1, Nat.lt_succ_of_lt h.2.1, Nat.lt_succ_of_lt h.2.2.1, allLt_up (Nat.lt_succ_self x) h.2.2.2⟩
theorem off1_all {G : Addr} : ∀ {l : List (Addr × Obj)}, LCg.Off1 G l → ∀ p ∈ l, p.1 ≠ G
  | [], _, _, h => nomatch h
  | _ :: _, x, p, h => by
    rcases List.mem_cons.mp h with rfl | h
    · exact x.1
    · exact off1_all x.2 p h
theorem sep4 {G a b c d : Addr} {ob oc od : Obj} {l : List (Addr × Obj)} (h : @Ne Nat a G ∧ @Ne Nat b G ∧ @Ne Nat c G ∧ @Ne Nat d G ∧ LCg.Off1 G l) : ∀ p ∈ (b, ob) :: (c, oc) :: (d, od) :: l, p.1 ≠ G := by
  intro p hp
  rcases List.mem_cons.mp hp with e | hp
  · rw [e]; exact h.2.1
  rcases List.mem_cons.mp hp with e | hp
  · rw [e]; exact h.2.2.1
  rcases List.mem_cons.mp hp with e | hp
  · rw [e]; exact h.2.2.2.1
  exact off1_all h.2.2.2.2 p hp
theorem low1 : Txt.lower (Str.ofString "rOAD") = Str.ofString "road" := by decide +kernel
theorem low2 : Txt.lower (Str.ofString "road") = Str.ofString "road" := by decide +kernel
local macro_rules | `(tactic| cell_enter) => `(tactic| (refine' code_def ?k1 ?k2 ?k3 ?k4 ?k5 ?kA ?kF ?kK ?k6 ?k7 ?k8 ?k9 ?kB ?_ ?c2 ?c3 ?c4 ?c5; (case kA => exact rfl); (case kF => exact rfl); (case kK => first | exact rfl | assumption); (case k1 => k_asm); (case k2 => k_asm); (case k3 => k_asm); (case k4 => k_asm); (case k5 => k_asm); (case k6 => k_is); (case k7 => k_is); (case k8 => first | k_room | ktr_room); (case k9 => first | exact BindsTo.of_eq rfl | exact binds_K (by k_in) rfl (by k_is) rfl rfl rfl); (case c5 => decide); (case kB => exact locs rfl); (case c2 => exact rfl); (case c3 => exact rfl); (case c4 => exact rfl); k_whole; intro g' L' h' FG' F' N' B' X' T'; (try dsimp only); (try k_lift B'); (try k_fold)))
local macro_rules | `(tactic| walk_at "getMethod ref") => `(tactic| (k_here; k_dflt (first | (with_reducible show wpAny _ _ (getMethod (Value.ref 83) _ _) _ _ _); refine' gm83 ?k1 ?k2 ?_; (case k1 => k_asm); (case k2 => k_asm) | (with_reducible show wpAny _ _ (getMethod (Value.ref 88) _ _) _ _ _); refine' gm88 ?k1 ?k2 ?_; (case k1 => k_asm); (case k2 => k_asm))))
local macro_rules | `(tactic| walk_at "call builtin:re.Pattern.search") => `(tactic| (k_here; k_dflt (first | (with_reducible show wpAny _ _ (call _ [Value.ref 83, Value.str _ _]) _ _ _); refine' search83 ?k1 ?k2 ?k3 ?k4 ?_; (case k1 => k_asm); (case k2 => k_asm); (case k3 => first | assumption | omega | decide +kernel); (case k4 => first | assumption | decide +kernel))))
local macro_rules | `(tactic| walk_at "eval ListComp") => `(tactic| (k_here; k_dflt (refine LCt.ListComp_T (F₀ := by k_asm) (by with_unfolding_all rfl) (by decide) (by rfl) (by decide) (by rfl) ?_)))
local macro_rules | `(tactic| walk_at "ElT") => `(tactic| ((rename News _ _ _ _ => lN'); exact elt_end (by assumption) lN' (fun p hp => .tail _ hp) ⟨_, rfl⟩))
set_option maxRecDepth 100000 in
set_option maxHeartbeats 8000000 in
theorem getall_call (w : World) {mean : ExcName → Option Value} {mg mb : Str → Option Value} {gd : Option (List Code)} {cn : Str} {csc : Scope} {aa : Addr} {ccd : Value} {cl : List (Str × Addr)} {outer : List Env} {A₀ : Around} {base h₀ : Heap} {L : Addr} {m : Str → Option Value} {s : Shared} {Q E : Value → Shared → Prop}
    {news : List (Addr × Obj)}
    {X D H : Addr} {vhs : List Value} {kh : Nat} {tk0 tn : Tok} {Ts : List Str} {os : List Int} {L9 : List (Addr × Obj)} {nm : Str}
    (B₀ : Below A₀ base outer h₀) (F₀ : Fr h₀ L s.heap m) (X₀ : (Mine.hd.heap_39 w.params).In h₀) (N₀ : News h₀ L s.heap ((H, listOf (List.toArray vhs) kh) :: (X, instObj 217 D) :: (D, dictOf [{ hash := PyData.keyHash w.params (Str.ofString "_headers"), key := Value.str (Str.ofString "_headers") tk0, val := Value.ref H }] 1) :: news)) (T₀ : Top topProg looseG mean mg mb h₀) (hkind : csc.kind = ScopeKind.function)
    (hda : DatAll L9 vhs (os.map (hdrD Ts))) (hsub : ∀ p ∈ L9, p ∈ ((H, listOf (List.toArray vhs) kh) :: (X, instObj 217 D) :: (D, dictOf [{ hash := PyData.keyHash w.params (Str.ofString "_headers"), key := Value.str (Str.ofString "_headers") tk0, val := Value.ref H }] 1) :: news)) (hlo : os.length ≤ 8) (hln : ∀ p ∈ os, (txtN Ts p).length ≤ 40) (hnm : Txt.lower nm = Str.ofString "road" ∧ nm.length = 4)
    (hret : ∀ (G : Addr) (vs : List Value) (n : Nat) (h' : Heap) (tk' : Nat), Fr h₀ L h' m → News h₀ L h' ((G, listOf vs.toArray n) :: ((H, listOf (List.toArray vhs) kh) :: (X, instObj 217 D) :: (D, dictOf [{ hash := PyData.keyHash w.params (Str.ofString "_headers"), key := Value.str (Str.ofString "_headers") tk0, val := Value.ref H }] 1) :: news)) → (∀ p ∈ ((H, listOf (List.toArray vhs) kh) :: (X, instObj 217 D) :: (D, dictOf [{ hash := PyData.keyHash w.params (Str.ofString "_headers"), key := Value.str (Str.ofString "_headers") tk0, val := Value.ref H }] 1) :: news), p.1 ≠ G) → StrsAre vs (os.map (txtN Ts)) → Q (.ref G) { s with heap := h', toks := tk' }) :
    wpAny (model PySem.Challenge.rw_pe0249_01.row.prog w) (ktrTop 302 7 gd cn csc L aa ccd cl outer) (call (.ref 156) [.ref X, .str nm tn]) Q E s := by
  have : Mine.hd.heap_39 w.params = Mine.hd.heap_39 w.params ∧ PySem.Challenge.rw_pe0249_01 = PySem.Challenge.rw_pe0249_01 := by
    k_fill
    exact ⟨rfl, rfl⟩
  clear this
  k_with_none
  w_top off
  refine wpAny_call ?_
  have hlv : vhs.length = os.length := by have := hda.length; simpa using this
  obtain ⟨hnm, hn4⟩ := hnm
  k_dflt (refine' code_defC ?k1 ?k2 ?k3 ?k4 ?k5 ?kA ?kF ?kK ?k6 ?k7 ?k8 ?k9 ?kB ?kD ?_ ?c2 ?c3 ?c4; (case kA => exact rfl); (case kF => exact rfl); (case kK => first | exact rfl | assumption); (case k1 => k_asm); (case k2 => k_asm); (case k3 => k_asm); (case k4 => k_asm); (case k5 => k_asm); (case k6 => k_is); (case k7 => k_is); (case k8 => first | k_room | ktr_room); (case k9 => first | exact BindsTo.of_eq rfl | exact binds_K (by k_in) rfl (by k_is) rfl rfl rfl); (case kB => exact rfl); (case kD => decide +kernel); (case c2 => exact rfl); (case c3 => exact rfl); (case c4 => exact rfl); k_whole; intro g' L' h' tk' cells' FG' F' N' Y' B' X' T' l1; (try k_lt l1); k_cells Y'; (try simp only [List.cons_append, List.nil_append] at N'); (try dsimp only); (try k_lift B'); (try k_fold))
  have l2 := up3 l1
  repeat' (first | (k_unfold; (try dsimp only)) | ((fail_if_success (with_reducible show wpAny _ _ (call (Value.builtin "str.lower") _) _ _ _)); (first | walk1 | (dsimp only; walk1))))
  walk1
  rw [hnm]
  repeat' (first | (k_unfold; (try dsimp only)) | ((fail_if_success (with_reducible show LCt.CompSrcT _ _ _ _ _ _ _ _ _ _ _ _ _ _ _)); (first | walk1 | (dsimp only; walk1))))
  (k_here; k_dflt ((refine LCt.CompSrcT.ledger (by rfl) (by k_asm) (by k_asm) (by k_mem) (by rw [PySem.sizeLine_eq, List.size_toArray]; omega) ?_); intro g9; (refine cmp_restT os (fun (p : Int) v => DatIn L9 v (hdrD Ts p)) (txtN Ts) (fun y (x : Str) => ∃ t, y = .str x t) (Or.inr ⟨_, by k_mem, rfl, _, rfl⟩) (by rw [List.size_toArray]; exact hlv.symm) (dat_rel hda) (fun k9 v9 I9 oI9 C9 oC9 D9 m9 ys9 h9 tk9 E9 hk9 hr9 hC9 hx9 F9 N9 off9 ne9 => ?_) (fun ys9 hl9 hr9 => ?_))))
  · obtain ⟨B9, t1, t2, n9, rfl, hm9⟩ := hdr_inv hr9
    have N8 := news_plus N9 (.tail _ (.tail _ (.tail _ (.tail _ (hsub _ hm9)))))
    clear N9
    have hlow := road_low k9
    have hrl := road_len k9
    have hl9 := hln k9 hk9
    repeat' (first | (k_unfold; (try dsimp only)) | (k_end; wrow_close) | walk1 | (dsimp only; walk1) | (leave1; walk_say "STEP leave1"; try dsimp only))
  · have hS := strs_of (g := txtN Ts) (by rw [hl9, List.size_toArray, hlv]) hr9
    clear hr9
    repeat' (first | (k_unfold; (try dsimp only)) | (k_end; wrow_close) | walk1 | (dsimp only; walk1) | (leave1; walk_say "STEP leave1"; try dsimp only))
    (rename News _ _ _ _ => lN')
    exact hret _ _ _ _ _ (by assumption) (fun p hp => lN' p (by
      rcases List.mem_cons.mp hp with e | hp
      · exact e ▸ .head _
      · exact .tail _ (.tail _ hp))) (sep4 (by assumption)) hS
end Mine

end
/-! part St8 -/
section
open PySem PySem.W PyProof.Rows PySem.Calls PySem.Spec PyProof.V
namespace Mine
noncomputable def pairOk (T : Str) (p q : Nat) : Bool :=
  let due := (placesOf T).getD p 0 - (placesOf T).getD q 0
  levF ((textsOf T).getD q default) ((textsOf T).getD p default) due == due && (p != q + 1 || decide (due ≤ levF ((textsOf T).getD p default) ((textsOf T).getD q default) (due - 1)))
theorem pairs_ok : ∀ T ∈ allTexts, ∀ p ∈ List.range (T.length - 1), ∀ q ∈ List.range p, pairOk T p q = true := by decide +kernel
theorem pair_ok {T : Str} (hT : T ∈ allTexts) {p q : Int} (h0 : 0 ≤ q) (hqp : q < p) (hp : p < (T.length : Int) - 1) :
    levF ((textsOf T).getD q.toNat default) ((textsOf T).getD p.toNat default) ((placesOf T).getD p.toNat 0 - (placesOf T).getD q.toNat 0) = (placesOf T).getD p.toNat 0 - (placesOf T).getD q.toNat 0 ∧
    (p = q + 1 → (placesOf T).getD p.toNat 0 - (placesOf T).getD q.toNat 0 ≤ levF ((textsOf T).getD p.toNat default) ((textsOf T).getD q.toNat default) ((placesOf T).getD p.toNat 0 - (placesOf T).getD q.toNat 0 - 1)) := by
  have h := pairs_ok T hT p.toNat (List.mem_range.mpr (by omega)) q.toNat (List.mem_range.mpr (by omega))
  unfold pairOk at h
  simp only [Bool.and_eq_true, beq_iff_eq, Bool.or_eq_true, bne_iff_ne, decide_eq_true_eq] at h
  refine ⟨h.1, fun e => ?_⟩
  rcases h.2 with h2 | h2
  · exact absurd (by omega) h2
  · exact h2
theorem nd1 {z : Str} (h2 : [Str.ofString "due"].contains z = false) : z ≠ Str.ofString "due" := by rintro rfl; simp at h2
theorem nd2 {z : Str} (h2 : [Str.ofString "q", Str.ofString "due"].contains z = false) : z ≠ Str.ofString "q" ∧ z ≠ Str.ofString "due" := by
  constructor <;> (rintro rfl; simp at h2)
theorem nc1 {z : Str} (h3 : z ≠ Str.ofString "due") : ¬ [Str.ofString "due"].contains z = true := by simp [h3]
theorem nc2 {z : Str} (h2 : z ≠ Str.ofString "q") (h3 : z ≠ Str.ofString "due") : ¬ [Str.ofString "q", Str.ofString "due"].contains z = true := by simp [h2, h3]
theorem texts_fit : ∀ T ∈ allTexts, ∀ x ∈ textsOf T, x.length ≤ 40 ∧ okL (cs x) = true := by decide +kernel
theorem text_fit {T : Str} (hT : T ∈ allTexts) (i : Nat) : ((textsOf T).getD i default).length ≤ 40 ∧ okL (cs ((textsOf T).getD i default)) = true := by
  by_cases h : i < (textsOf T).length
  · rw [List.getD_eq_getElem?_getD, List.getElem?_eq_getElem h]
    exact texts_fit T hT _ (List.getElem_mem h)
  · rw [List.getD_eq_getElem?_getD, List.getElem?_eq_none (by omega)]
    decide
theorem places_fit : ∀ T ∈ allTexts, ∀ x ∈ placesOf T, 0 ≤ x ∧ x ≤ 1000 := by decide +kernel
theorem place_fit {T : Str} (hT : T ∈ allTexts) (i : Nat) : 0 ≤ (placesOf T).getD i 0 ∧ (placesOf T).getD i 0 ≤ 1000 := by
  by_cases h : i < (placesOf T).length
  · rw [List.getD_eq_getElem?_getD, List.getElem?_eq_getElem h]
    exact places_fit T hT _ (List.getElem_mem h)
  · rw [List.getD_eq_getElem?_getD, List.getElem?_eq_none (by omega)]
    simp
local macro_rules | `(tactic| walk_at "subscriptTail") => `(tactic| (k_here; (with_reducible show wpAny _ _ (subscriptTail _ _ (Value.ref _) (Value.int _ _)) _ _ _); k_dflt (refine' strs_item ?k1 ?k2 ?k3 ?k4 ?k5 ?k6 ?_ ?k7; (case k1 => k_asm); (case k2 => k_mem); (case k3 => with_reducible assumption); (case k4 => omega); (case k5 => omega); (case k6 => omega); (case k7 => with_unfolding_all rfl)); intro t'))
local macro_rules | `(tactic| walk_at "call ref") => `(tactic| (k_here; (with_reducible show wpAny _ _ (call (Value.ref 52) _) _ _ _); k_dflt (refine' lev_call _ ?B ?F ?X ?N ?T ?k ?a1 ?a2 ?a3 ?a4 ?a5 ?a6 ?_; (case B => with_reducible assumption); (case F => k_asm); (case X => with_reducible assumption); (case N => k_asm); (case T => with_reducible assumption); (case k => rfl); (case a1 => exact (text_fit (by with_reducible assumption) _).1); (case a2 => exact (text_fit (by with_reducible assumption) _).1); (case a3 => exact (text_fit (by with_reducible assumption) _).2); (case a4 => exact (text_fit (by with_reducible assumption) _).2); (case a5 => decide); (case a6 => decide)); intro t' h' tk' F' N'))
set_option maxRecDepth 100000 in
set_option maxHeartbeats 8000000 in
theorem law_st8 (w : World) {mean : ExcName → Option Value} {mg mb : Str → Option Value} {aa : Addr} {ccd : Value} {L C1 C2 : Addr} {base h₀ h9 : Heap} {tk9 : Nat} {m0 : Str → Option Value} {s : Shared} {Q : Flow → Shared → Prop} {E : Value → Shared → Prop} {news : List (Addr × Obj)}
    {T : Str} {o1 o2 : Obj} {vts vps : List Value} {n k : Nat} {tT : Tok} {TX PL : Addr}
    (B' : Below callerA base [] h₀) (X' : (Mine.hd.heap_39 w.params).In h₀) (T' : Top topProg looseG mean mg mb h₀)
    (F' : Fr h₀ L h9 (fun y => if y = (Str.ofString "places") then some (.ref PL) else m0 y))
    (N' : News h₀ L h9 ((PL, listOf (List.toArray vps) k) :: (TX, listOf (List.toArray vts) n) :: (C2, o2) :: (C1, o1) :: (244, tabObj #[]) :: []))
    (hT : T ∈ allTexts) (hd2 : o2.data = .cell (some (.ref TX))) (hTs : StrsAre vts (textsOf T)) (hPs : IntsAre vps (placesOf T)) (hl : @LT.lt Nat _ C2 TX ∧ @LT.lt Nat _ C1 TX ∧ @LT.lt Nat _ 244 TX) (hPL : @LT.lt Nat _ TX PL) (hC : @LT.lt Nat _ C1 C2) (hC1 : @LT.lt Nat _ 244 C1) (hC2 : @LT.lt Nat _ 244 C2)
    (hq : ∀ h tk m', Fr h₀ L h m' → (∀ y, y ≠ Str.ofString "places" → y ≠ Str.ofString "p" → y ≠ Str.ofString "q" → y ≠ Str.ofString "due" → m' y = m0 y) → News h₀ L h ((PL, listOf (List.toArray vps) k) :: (TX, listOf (List.toArray vts) n) :: (C2, o2) :: (C1, o1) :: (244, tabObj #[]) :: []) → Q .next { s with heap := h, toks := tk }) :
    wpAny (model PySem.Challenge.rw_pe0249_01.row.prog w) (callerA.deeper (lawEnv L aa ccd C1 C2)) (exec (stAt 23 8) (lawEnv L aa ccd C1 C2)) Q
      (fun e s' => wpAny (model PySem.Challenge.rw_pe0249_01.row.prog w) (callerA.deeper (lawEnv L aa ccd C1 C2)) (leaving (lawEnv L aa ccd C1 C2) e) (fun _ s'' => E e s'') (fun e' s'' => E e' s'') s') { s with heap := h9, toks := tk9 } := by
  have : Mine.hd.heap_39 w.params = Mine.hd.heap_39 w.params ∧ PySem.Challenge.rw_pe0249_01 = PySem.Challenge.rw_pe0249_01 := by
    k_fill
    exact ⟨rfl, rfl⟩
  clear this
  k_with_none
  w_top off
  dsimp only [lawEnv]
  with_unfolding_all show wpAny _ _ (exec (Stmt.For _ _ _ _ _) _) _ _ _
  have hsc : fnScope 23 = fnScope 23 := rfl
  conv at hsc => rhs; whnf
  rw [hsc]
  clear hsc
  (try k_fold)
  obtain ⟨a1, a2⟩ := len_ok T hT
  have hlt : (textsOf T).length = T.length - 1 := by simp only [textsOf, crams, List.length_append, List.length_map, rangeKs_length, List.length_cons, List.length_nil]; omega
  have hlp : (placesOf T).length = T.length - 1 := by simp only [placesOf, List.length_append, List.length_map, rangeKs_length, List.length_cons, List.length_nil]; omega
  have hvt := hTs.length
  have hvp := hPs.length
  repeat' (first | (k_unfold; (try dsimp only)) | ((fail_if_success (with_reducible show wpAny _ _ (pyIter _) _ _ _)); walk1) | ((fail_if_success (with_reducible show wpAny _ _ (pyIter _) _ _ _)); dsimp only; walk1))
  (rename IsRange _ _ _ _ _ _ _ _ => rgX)
  (rename Fr _ _ _ _ => lF')
  (rename News _ _ _ _ => lN')
  refine rng_loop [Str.ofString "q", Str.ofString "due"] (by rfl) rgX (by omega) lF' lN' ?_ ?_
  · clear lF' lN' rgX
    intro k9 t9 u9 h8 k8 own9 b0 b1 ho9 F9 N9
    obtain ⟨pn, rfl⟩ := Int.eq_ofNat_of_zero_le b0
    simp only [List.cons_append, List.nil_append] at N9
    simp only [List.map_cons, List.map_nil] at ho9
    (try k_fold)
    repeat' (first | (k_unfold; (try dsimp only)) | ((fail_if_success (with_reducible show wpAny _ _ (pyIter _) _ _ _)); walk1) | ((fail_if_success (with_reducible show wpAny _ _ (pyIter _) _ _ _)); dsimp only; walk1))
    (rename IsRange _ _ _ _ _ _ _ _ => rgX)
    (rename Fr _ _ _ _ => lF')
    (rename News _ _ _ _ => lN')
    refine rng_loop [Str.ofString "due"] (by rfl) rgX (by omega) lF' lN' ?_ ?_
    · clear lF' lN' rgX
      intro k9 t9 u9 h8 k8 own8 b2 b3 ho8 F9 N9
      simp only [List.cons_append, List.append_assoc, List.nil_append] at N9
      simp only [List.map_cons, List.map_append, List.map_nil, List.cons_append] at ho8
      have hpo := pair_ok hT (p := (pn : Int)) (q := k9) b2 b3 (by omega)
      have f1 := place_fit hT (pn : Int).toNat
      have f2 := place_fit hT k9.toNat
      (try k_fold)
      repeat' (first | (k_unfold; (try dsimp only)) | (k_end; wrow_close) | walk1 | (dsimp only; walk1) | (leave1; walk_say "STEP leave1"; try dsimp only))
      all_goals first
        | (exfalso; (with_reducible rename _ ≠ _ => hz9); exact hz9 hpo.1)
        | (exfalso; have hz9 := hpo.2 (by with_reducible assumption); (with_reducible rename ¬ (_ ≤ _) => hz8); exact hz8 hz9)
        | (exfalso; have hz9 := hpo.2 (by with_reducible assumption); omega)
        | ((rename News _ _ _ _ => lN'); exact rng_end (by assumption) lN' (fun p hp => hp) (fun z h1 h2 => by rw [if_neg (nd1 h2), if_neg h1, if_neg (nc1 (nd1 h2))]))
    · intro u7 h7 k7 F7 N7
      clear lF' lN' rgX
      (try k_fold)
      repeat' (first | (k_unfold; (try dsimp only)) | (k_end; wrow_close) | walk1 | (dsimp only; walk1) | (leave1; walk_say "STEP leave1"; try dsimp only))
      exact rng_end F7 N7 (fun p hp => hp) (fun z h1 h2 => by rw [if_neg (nd2 h2).1, if_neg (nc1 (nd2 h2).2), if_neg h1, if_neg (nc2 (nd2 h2).1 (nd2 h2).2)])
  · intro u7 h7 k7 F7 N7
    exact hq _ _ _ F7 (fun z h0 h1 h2 h3 => by rw [if_neg h1, if_neg (nc2 h2 h3), if_neg h0]) N7
end Mine

end
/-! part St10 -/
section
open PySem PySem.W PyProof.Rows PySem.Calls PySem.Spec PyProof.V
namespace Mine
theorem txt_ok : ∀ T ∈ allTexts, (∀ x ∈ textsOf T, x.length ≤ 40 ∧ PyData.strOk x = true) := by decide +kernel
theorem txt_at {T : Str} (hT : T ∈ allTexts) (p : Int) : (txtN (textsOf T) p).length ≤ 40 ∧ PyData.strOk (txtN (textsOf T) p) = true := by
  unfold txtN
  by_cases h : p.toNat < (textsOf T).length
  · rw [List.getD_eq_getElem?_getD, List.getElem?_eq_getElem h]
    exact txt_ok T hT _ (List.getElem_mem h)
  · rw [List.getD_eq_getElem?_getD, List.getElem?_eq_none (by omega)]
    decide +kernel
theorem txts_ok {T : Str} (hT : T ∈ allTexts) (os : List Int) : ∀ x ∈ os.map (txtN (textsOf T)), PyData.strOk x = true := by
  intro x hx
  obtain ⟨p, _, rfl⟩ := List.mem_map.mp hx
  exact (txt_at hT p).2
local macro_rules | `(tactic| walk_at "eval ListComp") => `(tactic| (k_here; k_dflt (refine LCg.ListComp_U (F₀ := by k_asm) (by with_unfolding_all rfl) (by decide) (by rfl) (by decide) (by rfl) ?_)))
local macro_rules | `(tactic| walk_at "ElT") => `(tactic| ((rename News _ _ _ _ => lN'); exact elt_end (by assumption) lN' (fun p hp => hp) ⟨_, rfl⟩))
set_option maxRecDepth 100000 in
set_option maxHeartbeats 8000000 in
theorem law_st10 (w : World) {mean : ExcName → Option Value} {mg mb : Str → Option Value} {aa : Addr} {ccd : Value} {L C1 C2 : Addr} {base h₀ h9 : Heap} {tk9 : Nat} {m0 : Str → Option Value} {s : Shared} {Q : Flow → Shared → Prop} {E : Value → Shared → Prop} {news : List (Addr × Obj)}
    {T : Str} {o1 o2 : Obj} {vts vos vhs : List Value} {n kh n2 : Nat} {TX X D H OR : Addr} {tk0 : Tok} {os : List Int} {own : List (Addr × Obj)}
    (B' : Below callerA base [] h₀) (X' : (Mine.hd.heap_39 w.params).In h₀) (T' : Top topProg looseG mean mg mb h₀)
    (F' : Fr h₀ L h9 (fun y => if y = (Str.ofString "order") then some (.ref OR) else if y = (Str.ofString "table") then some (.ref X) else m0 y))
    (N' : News h₀ L h9 ((H, listOf (List.toArray vhs) kh) :: (X, instObj 217 D) :: (D, dictOf [{ hash := PyData.keyHash w.params (Str.ofString "_headers"), key := Value.str (Str.ofString "_headers") tk0, val := Value.ref H }] 1) :: (OR, listOf (List.toArray vos) n2) :: (TX, listOf (List.toArray vts) n) :: (C2, o2) :: (C1, o1) :: (244, tabObj #[]) :: own))
    (hT : T ∈ allTexts) (hd2 : o2.data = .cell (some (.ref TX))) (hTs : StrsAre vts (textsOf T)) (hpe : os.Perm (rangeKs 0 (textsOf T).length)) (hio : IntsAre vos os) (hda : DatAll ((H, listOf (List.toArray vhs) kh) :: (X, instObj 217 D) :: (D, dictOf [{ hash := PyData.keyHash w.params (Str.ofString "_headers"), key := Value.str (Str.ofString "_headers") tk0, val := Value.ref H }] 1) :: (OR, listOf (List.toArray vos) n2) :: (TX, listOf (List.toArray vts) n) :: (C2, o2) :: (C1, o1) :: (244, tabObj #[]) :: own) vhs (os.map (hdrD (textsOf T))))
    (hq : ∀ h tk, Fr h₀ L h (fun y => if y = Str.ofString "order" then some (.ref OR) else if y = Str.ofString "table" then some (.ref X) else m0 y) → News h₀ L h ((H, listOf (List.toArray vhs) kh) :: (X, instObj 217 D) :: (D, dictOf [{ hash := PyData.keyHash w.params (Str.ofString "_headers"), key := Value.str (Str.ofString "_headers") tk0, val := Value.ref H }] 1) :: (OR, listOf (List.toArray vos) n2) :: (TX, listOf (List.toArray vts) n) :: (C2, o2) :: (C1, o1) :: (244, tabObj #[]) :: own) → Q .next { s with heap := h, toks := tk }) :
    wpAny (model PySem.Challenge.rw_pe0249_01.row.prog w) (callerA.deeper (lawEnv L aa ccd C1 C2)) (exec (stAt 23 10) (lawEnv L aa ccd C1 C2)) Q
      (fun e s' => wpAny (model PySem.Challenge.rw_pe0249_01.row.prog w) (callerA.deeper (lawEnv L aa ccd C1 C2)) (leaving (lawEnv L aa ccd C1 C2) e) (fun _ s'' => E e s'') (fun e' s'' => E e' s'') s') { s with heap := h9, toks := tk9 } := by
  have : Mine.hd.heap_39 w.params = Mine.hd.heap_39 w.params ∧ PySem.Challenge.rw_pe0249_01 = PySem.Challenge.rw_pe0249_01 := by
    k_fill
    exact ⟨rfl, rfl⟩
  clear this
  k_with_none
  w_top off
  dsimp only [lawEnv]
  with_unfolding_all show wpAny _ _ (exec (Stmt.If _ _ _ _) _) _ _ _
  have hsc : fnScope 23 = fnScope 23 := rfl
  conv at hsc => rhs; whnf
  rw [hsc]
  clear hsc
  (try k_fold)
  obtain ⟨a1, a2⟩ := len_ok T hT
  have hlt : (textsOf T).length = T.length - 1 := by simp only [textsOf, crams, List.length_append, List.length_map, rangeKs_length, List.length_cons, List.length_nil]; omega
  have hol : os.length = (textsOf T).length := by rw [hpe.length_eq, rangeKs_length]
  have hvo := hio.length
  have hvt := hTs.length
  have hvh : vhs.length = os.length := by have := hda.length; simpa using this
  repeat' (first | (k_unfold; (try dsimp only)) | ((fail_if_success (with_reducible show wpAny _ _ (call (Value.ref _) [Value.ref _, Value.str _ _]) _ _ _)); (first | walk1 | (dsimp only; walk1))))
  (rename Fr _ _ _ _ => lF')
  (rename News _ _ _ _ => lN')
  k_here
  k_dflt (refine getall_call w B' lF' X' lN' T' rfl hda (fun p hp => hp) (by omega) (fun p hp => (txt_at hT p).1) ⟨low1, by decide +kernel⟩ ?_)
  intro G vg ng hg kg Fg Ng sg Sg
  clear lF' lN'
  repeat' (first | (k_unfold; (try dsimp only)) | ((fail_if_success (with_reducible show LCg.CompSrc _ _ _ _ _ _ _ _ _ _ _ _ _ _)); (first | walk1 | (dsimp only; walk1))))
  (k_here; k_dflt ((refine LCg.CompSrc.ledger (ax := OR) (its := vos.toArray) (by rfl) (by k_asm) (by k_asm) (by k_mem) (by rw [PySem.sizeLine_eq, List.size_toArray]; omega) ?_); intro g9; (refine cmp_rest0 os (fun (k : Int) v => ∃ t, v = Value.int k t) (txtN (textsOf T)) (fun y (x : Str) => ∃ t, y = .str x t) (Or.inr ⟨_, by k_mem, rfl, _, rfl⟩) (by rw [List.size_toArray]; omega) (ints_rel hio) (fun k9 v9 I9 oI9 C9 oC9 D9 m9 ys9 h9 tk9 E9 hk9 hr9 hC9 hx9 F9 N9 off9 ne9 => ?_) (fun ys9 hl9 hr9 => ?_))))
  · obtain ⟨t9, rfl⟩ := hr9
    have hb9 := rng_in hpe hk9
    repeat' (first | (k_unfold; (try dsimp only)) | (k_end; wrow_close) | walk1 | (dsimp only; walk1) | (leave1; walk_say "STEP leave1"; try dsimp only))
  · have hS := strs_of (g := txtN (textsOf T)) (by rw [hl9, List.size_toArray]; omega) hr9
    clear hr9
    repeat' (first | (k_unfold; (try dsimp only)) | ((fail_if_success (with_reducible show wpAny _ _ (compareOp _ (Value.ref _) (Value.ref _)) _ _ _)); (first | walk1 | (dsimp only; walk1))))
    (rename News _ _ _ _ => lN')
    k_here
    k_dflt (refine ne_strs lN' (.tail _ (.head _)) (.head _) Sg hS (txts_ok hT os) rfl (by ke_room) ?_)
    repeat' (first | (k_unfold; (try dsimp only)) | ((fail_if_success (with_reducible show wpAny _ _ (call (Value.builtin "len") _) _ _ _)); (first | walk1 | (dsimp only; walk1))))
    walk1
    repeat' (first | (k_unfold; (try dsimp only)) | ((fail_if_success (with_reducible show wpAny _ _ (call (Value.builtin "len") _) _ _ _)); (first | walk1 | (dsimp only; walk1))))
    (rename News _ _ _ _ => lN')
    k_here
    k_dflt (refine kst_len (l := H) (us := vhs) (c := kh) lN' (.tail _ (.tail _ (.head _))) (k := (textsOf T).length) (by omega) (by omega) ?_)
    repeat' (first | (k_unfold; (try dsimp only)) | (k_end; wrow_close) | walk1 | (dsimp only; walk1) | (leave1; walk_say "STEP leave1"; try dsimp only))
    (rename News _ _ _ _ => lN')
    k_here
    k_dflt (refine kst_len (l := TX) (us := vts) (c := n) lN' (.tail _ (.tail _ (.tail _ (.tail _ (.tail _ (.tail _ (.head _))))))) hvt (by omega) ?_)
    repeat' (first | (k_unfold; (try dsimp only)) | (k_end; wrow_close) | walk1 | (dsimp only; walk1) | (leave1; walk_say "STEP leave1"; try dsimp only))
    all_goals first
      | (exfalso; omega)
      | exact hq _ _ (by assumption) (fun p hp => lN' p (.tail _ (.tail _ hp)))
end Mine

end
/-! part St11 -/
section
open PySem PySem.W PyProof.Rows PySem.Calls PySem.Spec PyProof.V
namespace Mine
noncomputable def dots : Str := Str.ofString "..."
/-- a pair of the law: how far from the dots, the text -/
noncomputable def pairD (x : Str) : Dat := .tuple [.int (levF dots x 99), .str x]
theorem dots_fit : dots.length ≤ 40 ∧ okL (cs dots) = true := by decide +kernel
theorem elt_end2 {h₀ : Heap} {L : Addr} {m : Str → Option Value} {s : Shared} {I : Addr} {oI : Obj} {C : Addr} {oC : Obj} {D : Addr} {oD : Obj} {B : Addr} {oB : Obj} {news : List (Addr × Obj)} {R : List (Addr × Obj) → Value → Prop} {y : Value} {h' : Heap} {tk : Nat}
    (F : Fr h₀ L h' m) (N : News h₀ L h' ((B, oB) :: (I, oI) :: (C, oC) :: (D, oD) :: news)) (ne : @LT.lt Nat _ I B ∧ @LT.lt Nat _ C B ∧ @LT.lt Nat _ D B ∧ AllLt B news) (r : R ((B, oB) :: news) y) : ElT h₀ L m s I oI C oC D oD news R y { s with heap := h', toks := tk } :=
  ⟨h', tk, [(B, oB)], rfl, F, fun p hp => N p (by
    simp only [List.mem_cons, List.cons_append, List.nil_append] at hp ⊢
    rcases hp with e | e | e | e | e <;> simp [e]), ⟨⟨Nat.ne_of_gt ne.1, Nat.ne_of_gt ne.2.1, Nat.ne_of_gt ne.2.2.1⟩, True.intro⟩, r⟩
theorem strs_rel {vs : List Value} {xs : List Str} (h : StrsAre vs xs) : ∀ i v, i < vs.toArray.size → vs.toArray[i]? = some v → ∃ a, xs[i]? = some a ∧ ∃ t, v = .str a t := by
  intro i v _ hv
  obtain ⟨y, t, e, hy⟩ := h.item i v (by simpa using hv)
  exact ⟨y, hy, t, e⟩
local macro_rules | `(tactic| walk_at "exec Assign cons ListComp") => `(tactic| (k_here; k_dflt (refine LCg.Assign_ListComp_U (F₀ := by k_asm) (by rfl) (by with_unfolding_all rfl) (by with_unfolding_all rfl) (by decide) (by rfl) (by decide) (by rfl) (by rfl) (by rfl) ?_)))
local macro_rules | `(tactic| walk_at "ElT") => `(tactic| ((rename News _ _ _ _ => lN'); exact elt_end2 (by assumption) lN' (by with_reducible assumption) (.tuple (.head _) (.cons (.int _ _) (.cons (.str _ _) .nil)))))
local macro_rules | `(tactic| walk_at "call ref") => `(tactic| (k_here; (with_reducible show wpAny _ _ (call (Value.ref 52) _) _ _ _); k_dflt (refine' lev_call _ ?B ?F ?X ?N ?T ?k ?a1 ?a2 ?a3 ?a4 ?a5 ?a6 ?_; (case B => with_reducible assumption); (case F => k_asm); (case X => with_reducible assumption); (case N => k_asm); (case T => with_reducible assumption); (case k => rfl); (case a1 => exact dots_fit.1); (case a2 => with_reducible assumption); (case a3 => exact dots_fit.2); (case a4 => with_reducible assumption); (case a5 => decide); (case a6 => decide)); intro t' h' tk' F' N'))
set_option maxRecDepth 100000 in
set_option maxHeartbeats 8000000 in
theorem law_st11 (w : World) {mean : ExcName → Option Value} {mg mb : Str → Option Value} {aa : Addr} {ccd : Value} {L C1 C2 : Addr} {base h₀ h9 : Heap} {tk9 : Nat} {m0 : Str → Option Value} {s : Shared} {Q : Flow → Shared → Prop} {E : Value → Shared → Prop} {news : List (Addr × Obj)}
    {T : Str} {o1 o2 : Obj} {vts vos vhs : List Value} {n kh n2 : Nat} {TX X D H OR : Addr} {tk0 : Tok} {os : List Int} {own : List (Addr × Obj)}
    (B' : Below callerA base [] h₀) (X' : (Mine.hd.heap_39 w.params).In h₀) (T' : Top topProg looseG mean mg mb h₀)
    (F' : Fr h₀ L h9 (fun y => if y = (Str.ofString "order") then some (.ref OR) else if y = (Str.ofString "table") then some (.ref X) else m0 y))
    (N' : News h₀ L h9 ((H, listOf (List.toArray vhs) kh) :: (X, instObj 217 D) :: (D, dictOf [{ hash := PyData.keyHash w.params (Str.ofString "_headers"), key := Value.str (Str.ofString "_headers") tk0, val := Value.ref H }] 1) :: (OR, listOf (List.toArray vos) n2) :: (TX, listOf (List.toArray vts) n) :: (C2, o2) :: (C1, o1) :: (244, tabObj #[]) :: own))
    (hT : T ∈ allTexts) (hd2 : o2.data = .cell (some (.ref TX))) (hTs : StrsAre vts (textsOf T)) (hpe : os.Perm (rangeKs 0 (textsOf T).length)) (hio : IntsAre vos os) (hda : DatAll ((H, listOf (List.toArray vhs) kh) :: (X, instObj 217 D) :: (D, dictOf [{ hash := PyData.keyHash w.params (Str.ofString "_headers"), key := Value.str (Str.ofString "_headers") tk0, val := Value.ref H }] 1) :: (OR, listOf (List.toArray vos) n2) :: (TX, listOf (List.toArray vts) n) :: (C2, o2) :: (C1, o1) :: (244, tabObj #[]) :: own) vhs (os.map (hdrD (textsOf T))))
    (hq : ∀ h tk (P : Addr) vps k rest, DatAll rest vps ((os.map (txtN (textsOf T))).map pairD) → (∀ p ∈ (TX, listOf (List.toArray vts) n) :: (C2, o2) :: (C1, o1) :: (244, tabObj #[]) :: [], p ∈ rest) →
      Fr h₀ L h (fun y => if y = Str.ofString "pairs" then some (.ref P) else if y = Str.ofString "order" then some (.ref OR) else if y = Str.ofString "table" then some (.ref X) else m0 y) → News h₀ L h ((P, listOf (List.toArray vps) k) :: rest) → Q .next { s with heap := h, toks := tk }) :
    wpAny (model PySem.Challenge.rw_pe0249_01.row.prog w) (callerA.deeper (lawEnv L aa ccd C1 C2)) (exec (stAt 23 11) (lawEnv L aa ccd C1 C2)) Q
      (fun e s' => wpAny (model PySem.Challenge.rw_pe0249_01.row.prog w) (callerA.deeper (lawEnv L aa ccd C1 C2)) (leaving (lawEnv L aa ccd C1 C2) e) (fun _ s'' => E e s'') (fun e' s'' => E e' s'') s') { s with heap := h9, toks := tk9 } := by
  have : Mine.hd.heap_39 w.params = Mine.hd.heap_39 w.params ∧ PySem.Challenge.rw_pe0249_01 = PySem.Challenge.rw_pe0249_01 := by
    k_fill
    exact ⟨rfl, rfl⟩
  clear this
  k_with_none
  w_top off
  dsimp only [lawEnv]
  with_unfolding_all show wpAny _ _ (exec (Stmt.Assign _ _ _) _) _ _ _
  have hsc : fnScope 23 = fnScope 23 := rfl
  conv at hsc => rhs; whnf
  rw [hsc]
  clear hsc
  (try k_fold)
  obtain ⟨a1, a2⟩ := len_ok T hT
  have hlt : (textsOf T).length = T.length - 1 := by simp only [textsOf, crams, List.length_append, List.length_map, rangeKs_length, List.length_cons, List.length_nil]; omega
  have hol : os.length = (textsOf T).length := by rw [hpe.length_eq, rangeKs_length]
  have hvo := hio.length
  have hvt := hTs.length
  have hvh : vhs.length = os.length := by have := hda.length; simpa using this
  repeat' (first | (k_unfold; (try dsimp only)) | ((fail_if_success (with_reducible show wpAny _ _ (call (Value.ref _) [Value.ref _, Value.str _ _]) _ _ _)); (first | walk1 | (dsimp only; walk1))))
  (rename Fr _ _ _ _ => lF')
  (rename News _ _ _ _ => lN')
  k_here
  k_dflt (refine getall_call w B' lF' X' lN' T' rfl hda (fun p hp => hp) (by omega) (fun p hp => (txt_at hT p).1) ⟨low2, by decide +kernel⟩ ?_)
  intro G vg ng hg kg Fg Ng sg Sg
  clear lF' lN'
  repeat' (first | (k_unfold; (try dsimp only)) | ((fail_if_success (with_reducible show LCg.CompSrc _ _ _ _ _ _ _ _ _ _ _ _ _ _)); (first | walk1 | (dsimp only; walk1))))
  have hvg := Sg.length
  simp only [List.length_map] at hvg
  (k_here; k_dflt ((refine LCg.CompSrc.ledger (by rfl) Fg Ng (.head _) (by rw [PySem.sizeLine_eq, List.size_toArray]; omega) ?_); intro g9; (refine cmp_rest (os.map (txtN (textsOf T))) (fun (x : Str) v => ∃ t, v = Value.str x t) pairD (fun l y d => DatIn l y d) (fun l l' v b hm hr => DatIn.mono hm hr) (fun add => Or.inr ⟨_, List.mem_append_right _ (.head _), rfl, _, rfl⟩) (by rw [List.size_toArray, List.length_map]; omega) (strs_rel Sg) (fun k9 v9 tl9 I9 oI9 C9 oC9 D9 m9 ys9 h9 tk9 E9 hk9 hr9 hC9 hx9 F9 N9 off9 ne9 => ?_) (fun tl9 ys9 hl9 hr9 => ?_))))
  · obtain ⟨t9, rfl⟩ := hr9
    have hb9 : k9.length ≤ 40 ∧ okL (cs k9) = true := by
      obtain ⟨p, _, rfl⟩ := List.mem_map.mp hk9
      exact text_fit hT p.toNat
    obtain ⟨hb8, hb7⟩ := hb9
    repeat' (first | (k_unfold; (try dsimp only)) | (k_end; wrow_close) | walk1 | (dsimp only; walk1) | (leave1; walk_say "STEP leave1"; try dsimp only))
  · have hS := dats_of (g := pairD) (by rw [hl9, List.size_toArray, List.length_map]; omega) hr9
    clear hr9
    repeat' (first | (k_unfold; (try dsimp only)) | (k_end; wrow_close) | walk1 | (dsimp only; walk1) | (leave1; walk_say "STEP leave1"; try dsimp only))
    (rename News _ _ _ _ => lN')
    exact hq _ _ _ _ _ _ hS (fun p hp => List.mem_append_right _ (by
      simp only [List.mem_cons, List.not_mem_nil, or_false] at hp ⊢
      rcases hp with e | e | e | e <;> simp [e])) (by assumption) lN'
end Mine

end
/-! part In2 -/
section
open PySem PySem.W PyProof.Rows PySem.Calls PySem.Spec PyProof.V
namespace Mine
noncomputable def lamE : Expr := match stAt 22 1 with
  | .Assign _ (.Call _ [_, e] _ _) _ => e
  | _ => .Constant .none 0 ⟨0, 0, 0, 0⟩
noncomputable def lamP : Arguments := match lamE with
  | .Lambda p _ _ _ => p
  | _ => { posonlyargs := [], args := [], vararg := none, kwonlyargs := [], kw_defaults := [], kwarg := none, defaults := [] }
noncomputable def lamB : Expr := match lamE with
  | .Lambda _ b _ _ => b
  | _ => .Constant .none 0 ⟨0, 0, 0, 0⟩
noncomputable def lamS : Scope := match lamE with
  | .Lambda _ _ s _ => s
  | _ => fnScope 22
noncomputable def lamQ : Str := Str.ofString "_law_in_order" ++ ".<locals>." ++ Str.ofString "<lambda>"
noncomputable abbrev lamObj (cell : Addr) (pm : Value) (c : Addr) (ctv : Value) : Obj := kla_obj (Str.ofString "<lambda>") lamQ lamP lamB lamS [(Str.ofString "pairs", cell)] pm c ctv
noncomputable abbrev pairO (d : Int) (t : Tok) (x : Str) (u : Tok) (n : Nat) : Obj := { cls := .type "tuple", data := .seq #[.int d t, .str x u] n }
set_option maxRecDepth 100000 in
set_option maxHeartbeats 8000000 in
theorem lam_call (w : World) {mean : ExcName → Option Value} {mg mb : Str → Option Value} {dp un : Nat} {gd : Option (List Code)} {cn : Str} {csc : Scope} {aa : Addr} {ccd : Value} {cl : List (Str × Addr)} {outer : List Env} {A₀ : Around} {base h₀ : Heap} {L : Addr} {m : Str → Option Value} {s : Shared} {Q E : Value → Shared → Prop}
    {news : List (Addr × Obj)}
    {f c' cell P A1 A2 : Addr} {pm ctv : Value} {oc o : Obj} {vr : List Value} {kp n1 n2 : Nat} {d1 d2 : Int} {x1 x2 : Str} {t1 t2 u1 u2 tq : Tok} {vq : Array Value}
    (B₀ : Below A₀ base outer h₀) (F₀ : Fr h₀ L s.heap m) (X₀ : (Mine.hd.heap_39 w.params).In h₀) (N₀ : News h₀ L s.heap ((f, lamObj cell pm c' ctv) :: (c', oc) :: (cell, o) :: (P, listOf (List.toArray (.ref A1 :: vr)) kp) :: (A1, pairO d1 t1 x1 u1 n1) :: (A2, pairO d2 t2 x2 u2 n2) :: news)) (T₀ : Top topProg looseG mean mg mb h₀) (hkind : csc.kind = ScopeKind.function)
    (hcode : CodeHd base 248 244) (hoc : oc.data = .fields vq) (hvq : vq[1]? = some (.str lamQ tq)) (ho : o.data = .cell (some (.ref P))) (hdp : dp + 1 < recursionLimit) (hun : un + 8 < cLine) (hvr : vr.length ≤ 100)
    (hret : ∀ (b : Bool) (h' : Heap) (tk' : Nat), b = decide (d2 < d1) → Fr h₀ L h' m → News h₀ L h' ((f, lamObj cell pm c' ctv) :: (c', oc) :: (cell, o) :: (P, listOf (List.toArray (.ref A1 :: vr)) kp) :: (A1, pairO d1 t1 x1 u1 n1) :: (A2, pairO d2 t2 x2 u2 n2) :: news) → Q (.bool b) { s with heap := h', toks := tk' }) :
    wpAny (model PySem.Challenge.rw_pe0249_01.row.prog w) (ktrTop dp un gd cn csc L aa ccd cl outer) (call (.ref f) [.ref A2]) Q E s := by
  have : Mine.hd.heap_39 w.params = Mine.hd.heap_39 w.params ∧ PySem.Challenge.rw_pe0249_01 = PySem.Challenge.rw_pe0249_01 := by
    k_fill
    exact ⟨rfl, rfl⟩
  clear this
  k_with_none
  w_top off
  refine wpAny_call ?_
  have e1 : lamP = lamP := rfl
  conv at e1 => rhs; whnf
  have e2 : lamB = lamB := rfl
  conv at e2 => rhs; whnf
  have e3 : lamS = lamS := rfl
  conv at e3 => rhs; whnf

  delta lamObj at N₀ hret
  rw [e1, e2, e3] at N₀ hret
  clear e1 e2 e3
  k_dflt (refine' kla_code ?k1 ?k2 ?k3 ?k4 ?k5 ?kA ?kF ?kK ?k6 ?k7 ?k8 ?k9 ?kB ?_ ?c2 ?c3 ?c4 ?c5; (case kA => exact rfl); (case kF => exact rfl); (case kK => first | exact rfl | assumption); (case k1 => k_asm); (case k2 => k_asm); (case k3 => k_asm); (case k4 => k_asm); (case k5 => k_asm); (case k6 => k_mem); (case k7 => exact codeRec_news (by k_asm) (by k_mem) (by assumption) (by assumption)); (case k8 => first | k_room | ktr_room); (case k9 => exact rfl); (case c5 => decide); (case kB => exact locs rfl); (case c2 => exact rfl); (case c3 => exact rfl); (case c4 => exact rfl); k_whole; intro g' L' h' FG' F' N' B' X' T'; (try dsimp only); (try k_lift B'); (try k_fold))
  repeat' (first | (k_unfold; (try dsimp only)) | (k_end; wrow_close) | walk1 | (dsimp only; walk1) | (leave1; walk_say "STEP leave1"; try dsimp only))
  (rename News _ _ _ _ => lN')
  exact hret _ _ _ rfl (by assumption) lN'
end Mine

end
/-! part In3 -/
section
open PySem PySem.W PyProof.Rows PySem.Calls PySem.Spec PyProof.V
namespace Mine
/-- a test of the law's pairs, said of data -/
noncomputable def onD (p : Str → Bool) : Dat → Bool
  | .tuple [_, .str x] => p x
  | _ => false
theorem onD_pair (p : Str → Bool) (x : Str) : onD p (pairD x) = p x := rfl
theorem x3_eq {m : Str → Option Value} {x a b c : Str} {v va vb vc : Value} (ha : m a = some va) (hb : m b = some vb) (hc : m c = some vc) :
    (fun y => if y = x then some v else if y = a then some va else if y = b then some vb else if y = c then some vc else m y) = (fun y => if y = x then some v else m y) := by
  funext y
  by_cases h0 : y = x
  · rw [if_pos h0, if_pos h0]
  rw [if_neg h0, if_neg h0]
  by_cases h1 : y = a
  · rw [if_pos h1, h1, ha]
  rw [if_neg h1]
  by_cases h2 : y = b
  · rw [if_pos h2, h2, hb]
  rw [if_neg h2]
  by_cases h3 : y = c
  · rw [if_pos h3, h3, hc]
  rw [if_neg h3]
theorem news_swap {h₀ h : Heap} {L : Addr} {a b : Addr × Obj} {l : List (Addr × Obj)} (N : News h₀ L h (a :: b :: l)) : News h₀ L h (b :: a :: l) := fun p hp => N p (by
  simp only [List.mem_cons] at hp ⊢
  rcases hp with e | e | e <;> simp [e])
theorem and2 {a b c : Prop} (h : a ∧ b ∧ c) : c := h.2.2
theorem and1r {a b : Prop} (h : a ∧ b) : b := h.2
/-- a turn's end of the loop that splits a list -/
noncomputable def SplEnd (h₀ : Heap) (L : Addr) (x : Str) (m₀ : Str → Option Value) (Y Z : Addr) (yv zv : List Value) (rest own : List (Addr × Obj)) (q : Bool) (v : Value) (s : Shared) (f : Flow) (s₂ : Shared) : Prop :=
  f = .next ∧ ∃ h' tk' k1 k2 m', s₂ = { s with heap := h', toks := tk' } ∧ Fr h₀ L h' m' ∧ (∀ z, z ≠ x → m' z = m₀ z) ∧
    News h₀ L h' ((Y, listOf (List.toArray (if q = true then yv ++ [v] else yv)) k1) :: (Z, listOf (List.toArray (if q = true then zv else zv ++ [v])) k2) :: (rest ++ own))
theorem spl_yes {h₀ h' : Heap} {L : Addr} {x : Str} {m₀ m' : Str → Option Value} {Y Z : Addr} {yv zv : List Value} {rest own : List (Addr × Obj)} {q : Bool} {v : Value} {s : Shared} {tk k1 k2 : Nat} (hq : q = true) (F : Fr h₀ L h' m') (hm : ∀ z, z ≠ x → m' z = m₀ z)
    (N : News h₀ L h' ((Y, listOf (yv.toArray.push v) k1) :: (Z, listOf (List.toArray zv) k2) :: (rest ++ own))) : SplEnd h₀ L x m₀ Y Z yv zv rest own q v s .next { s with heap := h', toks := tk } := by
  subst hq
  refine ⟨rfl, h', tk, k1, k2, m', rfl, F, hm, ?_⟩
  simpa using N
theorem spl_no {h₀ h' : Heap} {L : Addr} {x : Str} {m₀ m' : Str → Option Value} {Y Z : Addr} {yv zv : List Value} {rest own : List (Addr × Obj)} {q : Bool} {v : Value} {s : Shared} {tk k1 k2 : Nat} (hq : q = false) (F : Fr h₀ L h' m') (hm : ∀ z, z ≠ x → m' z = m₀ z)
    (N : News h₀ L h' ((Y, listOf (List.toArray yv) k1) :: (Z, listOf (zv.toArray.push v) k2) :: (rest ++ own))) : SplEnd h₀ L x m₀ Y Z yv zv rest own q v s .next { s with heap := h', toks := tk } := by
  subst hq
  refine ⟨rfl, h', tk, k1, k2, m', rfl, F, hm, ?_⟩
  simpa using N
theorem filt_pair (p : Str → Bool) : ∀ xs : List Str, (xs.map pairD).filter (onD p) = (xs.filter p).map pairD := by
  intro xs
  rw [List.filter_map]
  rfl
theorem filt_pairN (p : Str → Bool) : ∀ xs : List Str, (xs.map pairD).filter (fun d => !onD p d) = (xs.filter (fun x => !p x)).map pairD := by
  intro xs
  rw [List.filter_map]
  rfl
section
variable {prog : Program} {w : World} {A : Around} {E : Value → Shared → Prop} {s : Shared} {env : Env} {h₀ : Heap} {x : Str} {body : List Stmt} {Q : Flow → Shared → Prop}
theorem split_loop {S Y Z : Addr} {vs : List Value} {ds : List Dat} {n k1 k2 : Nat} {m₀ : Str → Option Value} {rest L9 : List (Addr × Obj)} (q : Dat → Bool)
    (hh : A.handled = none) (hl : (S, listOf vs.toArray n) ∈ rest) (hd : DatAll L9 vs ds) (F : Fr h₀ env.locals s.heap m₀) (N : News h₀ env.locals s.heap ((Y, listOf #[] k1) :: (Z, listOf #[] k2) :: rest))
    (turn : ∀ v d yv zv c1 c2 m₁ h tk own, d ∈ ds → DatIn L9 v d → yv.length ≤ ds.length → zv.length ≤ ds.length → OwnOff own (Y :: Z :: rest.map (·.1)) → (∀ z, z ≠ x → m₁ z = m₀ z) →
      Fr h₀ env.locals h (fun y => if y = x then some v else m₁ y) → News h₀ env.locals h ((Y, listOf (List.toArray yv) c1) :: (Z, listOf (List.toArray zv) c2) :: (rest ++ own)) →
      wpAny (model prog w) A (execs body env) (SplEnd h₀ env.locals x m₁ Y Z yv zv rest own (q d) v { s with heap := h, toks := tk }) E { s with heap := h, toks := tk })
    (done : ∀ yv zv c1 c2 m₁ h tk, DatAll L9 yv (ds.filter q) → DatAll L9 zv (ds.filter (fun d => !q d)) → (∀ z, z ≠ x → m₁ z = m₀ z) → Fr h₀ env.locals h m₁ → News h₀ env.locals h ((Y, listOf (List.toArray yv) c1) :: (Z, listOf (List.toArray zv) c2) :: rest) → Q .next { s with heap := h, toks := tk }) :
    wpAny (model prog w) A (pyIter (.ref S)) (fun it s₂ => LoopAtV prog w A h₀ env x body Q E it s₂) E s := by
  have hlen : vs.length = ds.length := hd.length
  refine kdl_iter (news := (Y, listOf #[] k1) :: (Z, listOf #[] k2) :: rest) (fun i m nx => ∃ yv zv c1 c2, nx = (Y, listOf (List.toArray yv) c1) :: (Z, listOf (List.toArray zv) c2) :: rest ∧ DatAll L9 yv ((ds.take i).filter q) ∧ DatAll L9 zv ((ds.take i).filter (fun d => !q d)) ∧ ∀ z, z ≠ x → m z = m₀ z) hh (.tail _ (.tail _ hl)) F N ⟨[], [], k1, k2, rfl, .nil, .nil, fun _ _ => rfl⟩ ?_ ?_
  · rintro i v m₁ nx h tk own hv hoff _ ⟨yv, zv, c1, c2, rfl, hy, hz, hm⟩ F₁ N₁
    have hi : i < ds.length := by rw [← hlen]; exact (List.getElem?_eq_some_iff.mp hv).1
    obtain ⟨v', hv', hD⟩ := hd.get hi
    have ev : v' = v := by rw [hv] at hv'; exact (Option.some.inj hv').symm
    rw [ev] at hD
    have hs : ds.take (i + 1) = ds.take i ++ [ds[i]'hi] := by rw [List.take_add_one, List.getElem?_eq_getElem hi] <;> rfl
    have hyl : yv.length ≤ ds.length := by
      have h1 := hy.length
      have h2 := List.length_filter_le q (ds.take i)
      have h3 : (ds.take i).length ≤ ds.length := by rw [List.length_take]; omega
      omega
    have hzl : zv.length ≤ ds.length := by
      have h1 := hz.length
      have h2 := List.length_filter_le (fun d => !q d) (ds.take i)
      have h3 : (ds.take i).length ≤ ds.length := by rw [List.length_take]; omega
      omega
    refine wpAny_mono (turn v _ yv zv c1 c2 m₁ h tk own (List.getElem_mem hi) hD hyl hzl hoff hm F₁ N₁) (fun f s₂ p => ?_) fun _ _ e => e
    obtain ⟨rfl, h', tk', c1', c2', m', rfl, F2, hm', N2⟩ := p
    refine InvEndG.intro F2 N2 (nx := (Y, listOf (List.toArray (if q (ds[i]'hi) = true then yv ++ [v] else yv)) c1') :: (Z, listOf (List.toArray (if q (ds[i]'hi) = true then zv else zv ++ [v])) c2') :: rest) ⟨.tail _ (.tail _ hl), _, _, c1', c2', rfl, ?_, ?_, fun z hz => (hm' z hz).trans (hm z hz)⟩ hoff (fun p hp => ?_) (fun p hp => .tail _ (.tail _ (List.mem_append_right _ hp)))
    · rw [hs, List.filter_append]
      by_cases hq : q (ds[i]'hi) = true
      · rw [if_pos hq]
        simp only [List.filter_cons, hq, if_true, List.filter_nil]
        exact hy.append (.one hD)
      · rw [if_neg hq]
        simp only [List.filter_cons, hq, if_false, List.filter_nil, List.append_nil]
        simpa using hy
    · rw [hs, List.filter_append]
      by_cases hq : q (ds[i]'hi) = true
      · rw [if_pos hq]
        simpa [List.filter_cons, hq] using hz
      · rw [if_neg hq]
        have hq' : (!q (ds[i]'hi)) = true := by simpa using hq
        simp only [List.filter_cons, hq', if_true, List.filter_nil]
        exact hz.append (.one hD)
    · simp only [List.mem_cons, List.mem_append] at hp ⊢
      rcases hp with e | e | e <;> simp [e]
  · rintro m₁ nx h tk ⟨yv, zv, c1, c2, rfl, hy, hz, hm⟩ F₁ N₁
    rw [hlen, List.take_length] at hy hz
    exact done yv zv c1 c2 m₁ h tk hy hz hm F₁ N₁
end
local macro_rules | `(tactic| cell_enter) => `(tactic| (refine' code_def ?k1 ?k2 ?k3 ?k4 ?k5 ?kA ?kF ?kK ?k6 ?k7 ?k8 ?k9 ?kB ?_ ?c2 ?c3 ?c4 ?c5; (case kA => exact rfl); (case kF => exact rfl); (case kK => first | exact rfl | assumption); (case k1 => k_asm); (case k2 => k_asm); (case k3 => k_asm); (case k4 => k_asm); (case k5 => k_asm); (case k6 => k_is); (case k7 => k_is); (case k8 => first | k_room | ktr_room); (case k9 => first | exact BindsTo.of_eq rfl | exact binds_K (by k_in) rfl (by k_is) rfl rfl rfl); (case c5 => decide); (case kB => exact locs rfl); (case c2 => exact rfl); (case c3 => exact rfl); (case c4 => exact rfl); k_whole; intro g' L' h' FG' F' N' B' X' T'; (try dsimp only); (try k_lift B'); (try k_fold)))
local macro_rules | `(tactic| k_all) => `(tactic| first | assumption | exact OwnOff.ne (by assumption) (List.Mem.head _) | exact OwnOff.ne (by assumption) (List.Mem.tail _ (List.Mem.head _)) | (refine all_app ?_ ?_ <;> k_all) | exact al0 (by assumption) | exact al1 (by assumption) | exact al2 (by assumption) | exact al3 (by assumption) | exact al4 (by assumption) | exact al5 (by assumption) | exact al6 (by assumption) | exact al7 (by assumption) | exact al8 (by assumption) | exact al9 (by assumption) | exact al10 (by assumption) | exact al11 (by assumption) | exact al12 (by assumption) | exact al13 (by assumption) | exact al14 (by assumption) | exact al15 (by assumption))
local macro_rules | `(tactic| walk_at "exec For") => `(tactic| (k_here; (rename Fr _ _ _ _ => lF'); (with_unfolding_all refine' For_invVF lF' ?k1 ?k2 ?_; (case k1 => exact rfl); (case k2 => exact rfl); k_whole)))
set_option maxRecDepth 100000 in
set_option maxHeartbeats 8000000 in
theorem split_call (w : World) {mean : ExcName → Option Value} {mg mb : Str → Option Value} {dp un : Nat} {gd : Option (List Code)} {cn : Str} {csc : Scope} {aa : Addr} {ccd : Value} {cl : List (Str × Addr)} {outer : List Env} {A₀ : Around} {base h₀ : Heap} {L : Addr} {m : Str → Option Value} {s : Shared} {Q E : Value → Shared → Prop}
    {news : List (Addr × Obj)}
    {S f cell c' : Addr} {pm ctv : Value} {vs : List Value} {n : Nat} {xs : List Str} {L9 : List (Addr × Obj)} {p : Str → Bool}
    (B₀ : Below A₀ base outer h₀) (F₀ : Fr h₀ L s.heap m) (X₀ : (Mine.hd.heap_39 w.params).In h₀) (N₀ : News h₀ L s.heap ((S, listOf (List.toArray vs) n) :: (f, lamObj cell pm c' ctv) :: news)) (T₀ : Top topProg looseG mean mg mb h₀) (hkind : csc.kind = ScopeKind.function)
    (hcode : CodeHd base 248 244) (hda : DatAll L9 vs (xs.map pairD)) (hsub : ∀ q ∈ L9, q ∈ ((S, listOf (List.toArray vs) n) :: (f, lamObj cell pm c' ctv) :: news)) (hlo : xs.length ≤ 8) (hdp : dp + 2 < recursionLimit) (hun : un + 100 < cLine)
    (hpred : ∀ {gd' : Option (List Code)} {cn' : Str} {csc' : Scope} {L' aa' : Addr} {ccd' : Value} {cl' : List (Str × Addr)} {outer' : List Env} {A' : Around} {base' h' : Heap} {m' : Str → Option Value} {s' : Shared} {Q' E' : Value → Shared → Prop} {news' : List (Addr × Obj)} {v : Value} {x : Str},
      Below A' base' outer' h' → (∀ b o, base.get? b = some o → base'.get? b = some o) → Fr h' L' s'.heap m' → (Mine.hd.heap_39 w.params).In h' → News h' L' s'.heap news' → (∀ q ∈ (f, lamObj cell pm c' ctv) :: news, q ∈ news') → Top topProg looseG mean mg mb h' → csc'.kind = ScopeKind.function → x ∈ xs → DatIn L9 v (pairD x) →
      (∀ (h'' : Heap) (tk'' : Nat), Fr h' L' h'' m' → News h' L' h'' news' → Q' (.bool (p x)) { s' with heap := h'', toks := tk'' }) →
      wpAny (model PySem.Challenge.rw_pe0249_01.row.prog w) (ktrTop (dp + 1) (un + 3) gd' cn' csc' L' aa' ccd' cl' outer') (call (.ref f) [v]) Q' E' s')
    (hret : ∀ (R Y Z : Addr) (yv zv : List Value) (y1 z1 : Nat) (h' : Heap) (tk' : Nat), DatAll L9 yv ((xs.filter p).map pairD) → DatAll L9 zv ((xs.filter (fun x => !p x)).map pairD) → Fr h₀ L h' m → News h₀ L h' ((R, { cls := .type "tuple", data := .seq #[.ref Y, .ref Z] }) :: (Y, listOf (List.toArray yv) y1) :: (Z, listOf (List.toArray zv) z1) :: ((S, listOf (List.toArray vs) n) :: (f, lamObj cell pm c' ctv) :: news)) →
      (∀ b ∈ S :: f :: news.map (·.1), R ≠ b) → (∀ b ∈ S :: f :: news.map (·.1), Y ≠ b) → (∀ b ∈ S :: f :: news.map (·.1), Z ≠ b) → Q (.ref R) { s with heap := h', toks := tk' }) :
    wpAny (model PySem.Challenge.rw_pe0249_01.row.prog w) (ktrTop dp un gd cn csc L aa ccd cl outer) (call (.ref 73) [.ref S, .ref f]) Q E s := by
  have : Mine.hd.heap_39 w.params = Mine.hd.heap_39 w.params ∧ PySem.Challenge.rw_pe0249_01 = PySem.Challenge.rw_pe0249_01 := by
    k_fill
    exact ⟨rfl, rfl⟩
  clear this
  k_with_none
  w_top off
  refine wpAny_call ?_
  have hlv : vs.length = xs.length := by have := hda.length; simpa using this
  k_dflt cell_enter
  repeat' (first | (k_unfold; (try dsimp only)) | ((fail_if_success (with_reducible show wpAny _ _ (pyIter _) _ _ _)); walk1) | ((fail_if_success (with_reducible show wpAny _ _ (pyIter _) _ _ _)); dsimp only; walk1))
  (rename Fr _ _ _ _ => lF')
  (rename News _ _ _ _ => lN')
  refine split_loop (rest := (S, listOf (List.toArray vs) n) :: (f, lamObj cell pm c' ctv) :: news) (ds := xs.map pairD) (onD p) (by rfl) (.head _) hda lF' (news_swap lN') ?_ ?_
  · intro v9 d9 yv zv y1 z1 m9 h9 k9 own9 hd9 hD9 hyl hzl ho9 hm9 F9 N9
    obtain ⟨x9, hx9, rfl⟩ := List.mem_map.mp hd9
    rw [List.length_map] at hyl hzl
    simp only [List.cons_append] at N9
    have e1 := (hm9 (Str.ofString "predicate") (by decide)).trans (by with_unfolding_all rfl : _ = some (Value.ref f))
    have e2 := (hm9 (Str.ofString "yes") (by decide)).trans (by with_unfolding_all rfl : _ = some (Value.ref _))
    have e3 := (hm9 (Str.ofString "no") (by decide)).trans (by with_unfolding_all rfl : _ = some (Value.ref _))
    rw [← x3_eq e1 e2 e3] at F9
    clear lF' lN'
    (try k_fold)
    repeat' (first | (k_unfold; (try dsimp only)) | ((fail_if_success (with_reducible show wpAny _ _ (call (Value.ref f) [_]) _ _ _)); (first | walk1 | (dsimp only; walk1))))
    (rename Fr _ _ _ _ => lF')
    (rename News _ _ _ _ => lN')
    k_here
    k_dflt (refine hpred (by assumption) (fun _ _ e => e) lF' (by assumption) lN' (fun q hq => by
      rcases List.mem_cons.mp hq with e | hq
      · rw [e]; exact .tail _ (.tail _ (.tail _ (.head _)))
      · exact .tail _ (.tail _ (.tail _ (.tail _ (List.mem_append_left _ hq))))) (by assumption) rfl hx9 hD9 ?_)
    intro h8 k8 F8 N8
    clear lF' lN'
    repeat' (first | (k_unfold; (try dsimp only)) | (k_end; wrow_close) | walk1 | (dsimp only; walk1) | (leave1; walk_say "STEP leave1"; try dsimp only))
    all_goals (rename Fr _ _ _ _ => lF')
    all_goals (rename News _ _ _ _ => lN')
    all_goals (rw [x3_eq e1 e2 e3] at lF')
    · exact spl_yes (by assumption) lF' (fun z hz => by rw [if_neg hz]) lN'
    · exact spl_no (by assumption) lF' (fun z hz => by rw [if_neg hz]) lN'
  · intro yv zv y1 z1 m9 h9 k9 hy9 hz9 hm9 F9 N9
    have e2 := (hm9 (Str.ofString "yes") (by decide)).trans (by with_unfolding_all rfl : _ = some (Value.ref _))
    have e3 := (hm9 (Str.ofString "no") (by decide)).trans (by with_unfolding_all rfl : _ = some (Value.ref _))
    have F10 := fr_re2 F9 e2 e3
    rw [filt_pair] at hy9
    rw [filt_pairN] at hz9
    clear lF' lN' F9
    (try k_fold)
    repeat' (first | (k_unfold; (try dsimp only)) | (k_end; wrow_close) | walk1 | (dsimp only; walk1) | (leave1; walk_say "STEP leave1"; try dsimp only))
    (rename News _ _ _ _ => lN')
    exact hret _ _ _ _ _ _ _ _ _ hy9 hz9 (by assumption) lN' (away (and2 (by assumption))) (away (by assumption)) (away (and1r (by assumption)))
end Mine

end
/-! part In4 -/
section
open PySem PySem.W PyProof.Rows PySem.Calls PySem.Spec PyProof.V
namespace Mine
noncomputable abbrev tabF (c : Addr) : Obj := tabObj (#[] ++ #[rawInt ((198 : Nat) : Int), rawInt ((44 : Nat) : Int), Value.ref c])
theorem nsw2 {h₀ h : Heap} {L : Addr} {a b c : Addr × Obj} {l : List (Addr × Obj)} (N : News h₀ L h (a :: b :: c :: l)) : News h₀ L h (a :: c :: ([b] ++ l)) := fun p hp => N p (by
  simp only [List.mem_cons, List.cons_append, List.nil_append] at hp ⊢
  rcases hp with e | e | e | e <;> simp [e])
theorem lam_far {c f : Addr} {l : Prop} (h : @LT.lt Nat _ 244 c ∧ l) (h2 : @LT.lt Nat _ c f) : f ≠ 244 ∧ c ≠ 244 := ⟨Nat.ne_of_gt (Nat.lt_trans h.1 h2), Nat.ne_of_gt h.1⟩
theorem lam_far2 {f : Addr} {l : Prop} (h : @LT.lt Nat _ 244 f ∧ l) : f ≠ 244 := Nat.ne_of_gt h.1
theorem news_plus2 {h₀ h : Heap} {L : Addr} {q a : Addr × Obj} {l : List (Addr × Obj)} (N : News h₀ L h (a :: l)) (hq : q ∈ l) : News h₀ L h (a :: q :: l) := fun p hp => N p (by
  simp only [List.mem_cons] at hp ⊢
  rcases hp with e | e | e
  · exact .inl e
  · exact .inr (e ▸ hq)
  · exact .inr e)
/-- the lambda's code: not made yet, or made -/
noncomputable def TabSt (led : List (Addr × Obj)) (o : Obj) : Prop :=
  o = tabObj #[] ∨ ∃ (c : Addr) (oc : Obj) (vq : Array Value) (tq : Tok), o = tabF c ∧ (c, oc) ∈ led ∧ oc.data = .fields vq ∧ vq[1]? = some (.str lamQ tq)
noncomputable abbrev ordEnv (L' : Addr) : Env := envOfC (Str.ofString "_law_in_order") (fnScope 22) L' 249 (Value.ref 248)
set_option maxRecDepth 100000 in
set_option maxHeartbeats 8000000 in
theorem lam_eval (w : World) {mean : ExcName → Option Value} {mg mb : Str → Option Value} {dp un : Nat} {gd : Option (List Code)} {cn : Str} {csc : Scope} {L a : Addr} {ccd : Value} {cl : List (Str × Addr)} {outer : List Env} {base g' : Heap} {L' : Addr} {h9 : Heap} {tk9 : Nat} {s : Shared} {Q E : Value → Shared → Prop}
    {m0 : Str → Option Value} {led : List (Addr × Obj)} {o : Obj}
    (B' : Below (ktrTop dp un gd cn csc L a ccd cl outer) base (envX cn csc L a ccd cl :: outer) g') (X' : (Mine.hd.heap_39 w.params).In g') (T' : Top topProg looseG mean mg mb g')
    (F' : Fr g' L' h9 m0) (N' : News g' L' h9 ((244, o) :: led)) (hcode : CodeHd base 248 244) (hsep : ∀ p ∈ led, p.1 ≠ 244) (hst : TabSt led o)
    (hq : ∀ (f c : Addr) (pm ct : Value) (oc : Obj) (vq : Array Value) (tq : Tok) (add : List (Addr × Obj)) (h : Heap) (tk : Nat), Fr g' L' h m0 → News g' L' h ((f, lamObj (L' + 1) pm c ct) :: (244, tabF c) :: (add ++ led)) → (c, oc) ∈ add ++ led → oc.data = .fields vq → vq[1]? = some (.str lamQ tq) → f ≠ 244 → (∀ p ∈ add, p.1 ≠ 244) → Q (.ref f) { s with heap := h, toks := tk }) :
    wpAny (model PySem.Challenge.rw_pe0249_01.row.prog w) ((ktrTop dp un gd cn csc L a ccd cl outer).deeper (ordEnv L')) (eval lamE (ordEnv L')) Q E { s with heap := h9, toks := tk9 } := by
  have : Mine.hd.heap_39 w.params = Mine.hd.heap_39 w.params ∧ PySem.Challenge.rw_pe0249_01 = PySem.Challenge.rw_pe0249_01 := by
    k_fill
    exact ⟨rfl, rfl⟩
  clear this
  k_with_none
  w_top off
  have e1 : lamE = lamE := rfl
  conv at e1 => rhs; whnf
  have e2 : fnScope 22 = fnScope 22 := rfl
  conv at e2 => rhs; whnf
  rw [e1]
  delta ordEnv
  rw [e2]
  clear e1 e2
  (try k_fold)
  rcases hst with rfl | ⟨c9, oc9, vq9, tq9, rfl, hm9, hd9, hv9⟩
  · walk1
    (rename News _ _ _ _ => lN')
    obtain ⟨f1, f2⟩ := lam_far (by assumption) (by assumption)
    exact hq _ _ _ _ _ _ _ [_] _ _ (by assumption) (nsw2 lN') (.head _) (by with_reducible assumption) (by assumption) f1 (fun p hp => by rw [List.mem_singleton.mp hp]; exact f2)
  · have N8 := news_plus2 N' hm9
    clear N'
    walk1
    (rename News _ _ _ _ => lN')
    exact hq _ _ _ _ _ _ _ [] _ _ (by assumption) (fun p hp => lN' p (by
      rcases List.mem_cons.mp hp with e | hp
      · rw [e]; exact .head _
      rcases List.mem_cons.mp hp with e | hp
      · rw [e]; exact .tail _ (.head _)
      exact .tail _ (.tail _ (.tail _ hp)))) hm9 hd9 hv9 (lam_far2 (by assumption)) (fun p hp => nomatch hp)
end Mine

end
/-! part In5 -/
section
open PySem PySem.W PyProof.Rows PySem.Calls PySem.Spec PyProof.V
namespace Mine
noncomputable def key (x : Str) : Int := levF dots x 99
/-- the order that the law asks for -/
noncomputable def ordF : Nat → List Str → List Str
  | 0, _ => []
  | _ + 1, [] => []
  | n + 1, x :: r => (ordF n (r.filter fun y => decide (key y < key x)) ++ [x]) ++ ordF n (r.filter fun y => !decide (key y < key x))
theorem ordF_nil (n : Nat) : ordF n [] = [] := by cases n <;> rfl
theorem pairs_okD {xs : List Str} (h : ∀ x ∈ xs, PyData.strOk x = true) : ∀ d ∈ xs.map pairD, kqdOk 8 d = true := by
  intro d hd
  obtain ⟨x, hx, rfl⟩ := List.mem_map.mp hd
  show (true && (PyData.strOk x && true)) = true
  rw [h x hx]
  rfl
theorem pair_inv {L9 : List (Addr × Obj)} {v : Value} {x : Str} (h : DatIn L9 v (pairD x)) : ∃ (B : Addr) (t u : Tok) (n : Nat), v = .ref B ∧ (B, pairO (key x) t x u n) ∈ L9 := by
  unfold pairD at h
  cases h with
  | tuple hm r =>
    cases r with
    | cons h1 r =>
      cases r with
      | cons h2 r =>
        cases r
        cases h1
        cases h2
        exact ⟨_, _, _, _, rfl, hm⟩
theorem tab_mono {l l' : List (Addr × Obj)} {o : Obj} (h : TabSt l o) (hs : ∀ p ∈ l, p ∈ l') : TabSt l' o := by
  rcases h with h | ⟨c, oc, vq, tq, h1, h2, h3, h4⟩
  · exact .inl h
  · exact .inr ⟨c, oc, vq, tq, h1, hs _ h2, h3, h4⟩
theorem up2 {x a b : Addr} {l : List (Addr × Obj)} (h : @LT.lt Nat _ a x ∧ @LT.lt Nat _ b x ∧ AllLt x l) : @LT.lt Nat _ a (x + 1) ∧ @LT.lt Nat _ b (x + 1) ∧ AllLt (x + 1) l :=
  ⟨Nat.lt_succ_of_lt h.1, Nat.lt_succ_of_lt h.2.1, allLt_up (Nat.lt_succ_self x) h.2.2⟩
theorem and2' {a b c : Prop} (h : a ∧ b ∧ c) : b := h.2.1
theorem far4 {x : Addr} {a b c e : Prop} (h : a ∧ b ∧ c ∧ @LT.lt Nat _ 244 x ∧ e) : x ≠ 244 := Nat.ne_of_gt h.2.2.2.1
theorem pull3 {h₀ h : Heap} {L : Addr} {a b c e : Addr × Obj} {l : List (Addr × Obj)} (N : News h₀ L h (a :: b :: c :: e :: l)) : News h₀ L h (e :: a :: b :: c :: l) := fun p hp => N p (by
  simp only [List.mem_cons] at hp ⊢
  rcases hp with e | e | e | e | e <;> simp [e])
theorem ordF_len : ∀ (n : Nat) (xs : List Str), (ordF n xs).length ≤ xs.length
  | 0, _ => Nat.zero_le _
  | _ + 1, [] => Nat.zero_le _
  | n + 1, x :: r => by
    have h1 := ordF_len n (r.filter fun y => decide (key y < key x))
    have h2 := ordF_len n (r.filter fun y => !decide (key y < key x))
    have h3 : (r.filter fun y => decide (key y < key x)).length + (r.filter fun y => !decide (key y < key x)).length = r.length := by
      clear h1 h2
      induction r with
      | nil => rfl
      | cons y r ih =>
        simp only [List.filter_cons]
        by_cases hy : key y < key x
        · simp only [hy, decide_true, if_true, Bool.not_true, List.length_cons]
          simp only [Bool.false_eq_true, if_false]
          omega
        · simp only [hy, decide_false, Bool.not_false, if_true, List.length_cons]
          simp only [Bool.false_eq_true, if_false]
          omega
    show ((ordF n _ ++ [x]) ++ ordF n _).length ≤ _
    simp only [List.length_append, List.length_cons, List.length_nil]
    omega
theorem nsub {h₀ h : Heap} {L : Addr} {l l' : List (Addr × Obj)} (N : News h₀ L h l) (hs : ∀ p ∈ l', p ∈ l) : News h₀ L h l' := fun p hp => N p (hs p hp)
theorem sub_mem {x : Addr × Obj} {l l' : List (Addr × Obj)} (h : x ∈ l) (hs : ∀ p ∈ l, p ∈ l') : x ∈ l' := hs x h
noncomputable def Ord (w : World) (mean : ExcName → Option Value) (mg mb : Str → Option Value) (n : Nat) : Prop :=
  ∀ {dp un : Nat} {gd : Option (List Code)} {cn : Str} {csc : Scope} {aa : Addr} {ccd : Value} {cl : List (Str × Addr)} {outer : List Env} {A₀ : Around} {base h₀ : Heap} {L : Addr} {m : Str → Option Value} {s : Shared} {Q E : Value → Shared → Prop}
    {led : List (Addr × Obj)} {o : Obj} {P : Addr} {vps : List Value} {kp : Nat} {xs : List Str},
    Below A₀ base outer h₀ → Fr h₀ L s.heap m → (Mine.hd.heap_39 w.params).In h₀ → News h₀ L s.heap ((244, o) :: led) → Top topProg looseG mean mg mb h₀ → csc.kind = ScopeKind.function →
    CodeHd base 248 244 → TabSt led o → (∀ p ∈ led, p.1 ≠ 244) → (P, listOf (List.toArray vps) kp) ∈ led → DatAll led vps (xs.map pairD) → xs.length ≤ n → xs.length ≤ 8 → (∀ x ∈ xs, PyData.strOk x = true) → dp + n + 5 < recursionLimit → un + 3 * n + 300 < cLine →
    (∀ (G : Addr) (gv : List Value) (gn : Nat) (o' : Obj) (add : List (Addr × Obj)) (h' : Heap) (tk' : Nat), Fr h₀ L h' m → News h₀ L h' ((244, o') :: (G, listOf (List.toArray gv) gn) :: (add ++ led)) → TabSt (add ++ led) o' → G ≠ 244 → (∀ p ∈ add, p.1 ≠ 244) → StrsAre gv (ordF n xs) → Q (.ref G) { s with heap := h', toks := tk' }) →
    wpAny (model PySem.Challenge.rw_pe0249_01.row.prog w) (ktrTop dp un gd cn csc L aa ccd cl outer) (call (.ref 249) [.ref P]) Q E s
local macro_rules | `(tactic| walk_at "mine:mem") => `(tactic| ((try simp only [List.cons_append, List.append_assoc]); repeat' (first | exact List.forall_mem_nil _ | (refine List.forall_mem_cons.mpr ⟨?_, ?_⟩) | (refine List.forall_mem_append.mpr ⟨?_, ?_⟩) | (with_reducible (intro p9 h9; (repeat (first | exact h9 | exact List.mem_append_left _ h9 | exact List.mem_append_right _ h9 | refine List.mem_cons_of_mem _ ?_ | refine List.mem_append_right _ ?_)); done)) | (with_reducible ((repeat (first | exact List.mem_cons_self | assumption | refine List.mem_cons_of_mem _ ?_ | refine List.mem_append_right _ ?_)); done)))))
local macro_rules | `(tactic| walk_at "mine:sep") => `(tactic| (repeat' (first | exact List.forall_mem_nil _ | with_reducible assumption | (dsimp only; with_reducible assumption) | (refine List.forall_mem_cons.mpr ⟨?_, ?_⟩) | (refine List.forall_mem_append.mpr ⟨?_, ?_⟩))))
local macro_rules | `(tactic| walk_at "subscriptTail Name Slice ref ref") => `(tactic| (k_here; (with_reducible show wpAny _ _ (subscriptTail _ (Expr.Slice (some _) none none _) (Value.ref _) _) _ _ _); k_dflt (refine' slice_tail (s := ⟨_, _, _, _, _⟩) ?k1 ?k2 ?k3 ?k4 ?_ ?k5 ?k6; (case k1 => k_asm); (case k2 => k_asm); (case k3 => k_mem); (case k4 => omega); (case k5 => with_unfolding_all rfl); (case k6 => (intro _; with_unfolding_all rfl))); intro D' h' F' N' l1; (try k_lt l1)))
set_option maxRecDepth 100000 in
set_option maxHeartbeats 8000000 in
theorem ord_step (w : World) (mean : ExcName → Option Value) (mg mb : Str → Option Value) (n : Nat) (ih : ∀ k, n = k + 1 → Ord w mean mg mb k) : Ord w mean mg mb n := by
  intro dp un gd cn csc aa ccd cl outer A₀ base h₀ L m s Q E led o P vps kp xs B₀ F₀ X₀ N₀ T₀ hkind hcode hst hsep hP hda hln hl8 hok hdp hun hret
  have : Mine.hd.heap_39 w.params = Mine.hd.heap_39 w.params ∧ PySem.Challenge.rw_pe0249_01 = PySem.Challenge.rw_pe0249_01 := by
    k_fill
    exact ⟨rfl, rfl⟩
  clear this
  k_with_none
  w_top off
  refine wpAny_call ?_
  have hlv : vps.length = xs.length := by have := hda.length; simpa using this
  have hP4 : P ≠ 244 := hsep _ hP
  have N1 : News h₀ L s.heap ((P, listOf (List.toArray vps) kp) :: (244, o) :: led) := news_plus N₀ (.tail _ hP)
  clear N₀
  k_dflt (refine' code_defC ?k1 ?k2 ?k3 ?k4 ?k5 ?kA ?kF ?kK ?k6 ?k7 ?k8 ?k9 ?kB ?kD ?_ ?c2 ?c3 ?c4; (case kA => exact rfl); (case kF => exact rfl); (case kK => first | exact rfl | assumption); (case k1 => k_asm); (case k2 => k_asm); (case k3 => k_asm); (case k4 => k_asm); (case k5 => k_asm); (case k6 => k_is); (case k7 => k_is); (case k8 => first | k_room | ktr_room); (case k9 => first | exact BindsTo.of_eq rfl | exact binds_K (by k_in) rfl (by k_is) rfl rfl rfl); (case kB => exact rfl); (case kD => decide +kernel); (case c2 => exact rfl); (case c3 => exact rfl); (case c4 => exact rfl); k_whole; intro g' L' h' tk' cells' FG' F' N' Y' B' X' T' l1; (try k_lt l1); k_cells Y'; (try simp only [List.cons_append, List.nil_append] at N'); (try dsimp only); (try k_lift B'); (try k_fold))
  (rename Obj => o9)
  (with_reducible rename Obj.data _ = Data.cell _ => dO9)
  repeat' (first | (k_unfold; (try dsimp only)) | ((fail_if_success (with_reducible show wpAny _ _ (compareOp _ _ _) _ _ _)); (first | walk1 | (dsimp only; walk1))))
  k_here
  k_dflt (refine' kqd_eq (ds := xs.map pairD) (es := []) (n₂ := []) ?N ?a ?b ?c hda ?e ?f ?g ?i .nil (fun _ h => nomatch h) ?l (fun _ h => nomatch h) ?n ?_; (case N => k_asm); (case a => exact .tail _ (.tail _ (.head _))); (case b => rfl); (case c => rfl); (case e => exact fun p hp => .tail _ (.tail _ (.tail _ (.tail _ hp)))); (case f => exact .head _); (case g => rfl); (case i => rfl); (case l => exact pairs_okD hok); (case n => show un + 3 + 64 < cLine; omega))
  cases xs with
  | nil =>
    simp only [List.map_nil, decide_true]
    repeat' (first | (k_unfold; (try dsimp only)) | (k_end; wrow_close) | walk1 | (dsimp only; walk1) | (leave1; walk_say "STEP leave1"; try dsimp only))
    (rename News _ _ _ _ => lN')
    exact hret _ [] 0 o [] _ _ (by assumption) (fun p hp => lN' p (by
      rcases List.mem_cons.mp hp with e | hp
      · rw [e]; exact .tail _ (.tail _ (.tail _ (.tail _ (.head _))))
      rcases List.mem_cons.mp hp with e | hp
      · rw [e]; exact .head _
      exact .tail _ (.tail _ (.tail _ (.tail _ (.tail _ hp)))))) hst (far4 (by assumption)) (fun p hp => nomatch hp) (by rw [ordF_nil]; exact .nil)
  | cons x r =>
    simp only [List.map_cons, reduceCtorEq, decide_false]
    obtain ⟨k, rfl⟩ : ∃ k, n = k + 1 := ⟨n - 1, by simp only [List.length_cons] at hln; omega⟩
    cases hda with
    | cons hx hr =>
    (rename List Value => vr)
    obtain ⟨A1, t1, u1, n1, rfl, hA1⟩ := pair_inv hx
    (rename News _ _ _ _ => lN')
    have N3 := news_tail lN'
    clear lN'
    repeat' (first | (k_unfold; (try dsimp only)) | ((fail_if_success (with_reducible show wpAny _ _ (subscriptTail _ _ _ _) _ _ _)); (first | walk1 | (dsimp only; walk1))))
    (rename Fr _ _ _ _ => lF')
    refine slice_tail (s := ⟨_, _, _, _, _⟩) (hs := by with_unfolding_all rfl) (ht := by intro _; with_unfolding_all rfl) lF' N3 (.tail _ (.head _)) (by omega) ?_
    intro D9 h9' F9 N9 lD9
    clear lF' N3
    have fD : D9 ≠ 244 := Nat.ne_of_gt (lD9 (244, o) (.tail _ (.tail _ (.head _))))
    have fL : L' + 1 ≠ 244 := Nat.ne_of_gt (Nat.lt_succ_of_lt (and2' (by assumption)))
    repeat' (first | (k_unfold; (try dsimp only)) | ((fail_if_success (with_reducible show wpAny _ _ (eval (Expr.Lambda _ _ _ _) _) _ _ _)); (first | walk1 | (dsimp only; walk1))))
    have lsep : ∀ p ∈ (D9, listOf (List.drop 1 (Value.ref A1 :: vr)).toArray 0) :: (L' + 1, o9) :: (P, listOf (List.toArray (Value.ref A1 :: vr)) kp) :: led, p.1 ≠ 244 := by
      intro p hp
      rcases List.mem_cons.mp hp with e | hp
      · rw [e]; exact fD
      rcases List.mem_cons.mp hp with e | hp
      · rw [e]; exact fL
      rcases List.mem_cons.mp hp with e | hp
      · rw [e]; exact hP4
      exact hsep p hp
    k_here
    k_dflt (refine lam_eval w (by assumption) (by assumption) (by assumption) F9 (pull3 N9) hcode lsep (tab_mono hst (fun p hp => .tail _ (.tail _ (.tail _ hp)))) ?_)
    intro f c pm ct oc vq tq add h8 k8 F8 N8 hc8 hd8 hv8 hf8 hadd8
    clear F9 N9
    repeat' (first | (k_unfold; (try dsimp only)) | ((fail_if_success (with_reducible show wpAny _ _ (call (Value.ref 73) _) _ _ _)); (first | walk1 | (dsimp only; walk1))))
    have dP : o9.data = .cell (some (.ref P)) := dO9.trans (by with_unfolding_all rfl)
    have hvr9 : vr.length ≤ 100 := by simp only [List.length_cons] at hlv hl8; omega
    have hdr : DatAll led (List.drop 1 (Value.ref A1 :: vr)) (r.map pairD) := hr
    simp only [List.length_cons] at hln hl8
    have N9 : News g' L' h8 ((D9, listOf (List.toArray (List.drop 1 (Value.ref A1 :: vr))) 0) :: (f, lamObj (L' + 1) pm c ct) :: (244, tabF c) :: (D9, listOf (List.toArray (List.drop 1 (Value.ref A1 :: vr))) 0) :: (L' + 1, o9) :: (P, listOf (List.toArray (Value.ref A1 :: vr)) kp) :: (add ++ led)) := nsub N8 (by walk_at "mine:mem")
    have hcin : (c, oc) ∈ (244, tabF c) :: (D9, listOf (List.toArray (List.drop 1 (Value.ref A1 :: vr))) 0) :: (L' + 1, o9) :: (P, listOf (List.toArray (Value.ref A1 :: vr)) kp) :: (add ++ led) := sub_mem hc8 (by walk_at "mine:mem")
    k_here
    k_dflt (refine split_call w (dp := dp + 1) (un := un + 3) (L9 := led) (p := fun y => decide (key y < key x)) (by assumption) F8 (by assumption) N9 (by assumption) rfl hcode hdr (fun q hq => .tail _ (.tail _ (.tail _ (.tail _ (.tail _ (.tail _ (List.mem_append_right _ hq))))))) (by omega) (by omega) (by omega) ?pred ?_)
    case pred =>
      intro gd' cn' csc' L2 aa' ccd' cl' outer' A' base' hh m' s' Q' E' news' v y B2 stays F2 X2 N2 sub2 T2 kd2 hy hv hret2
      obtain ⟨A2, t2, u2, n2, rfl, hA2⟩ := pair_inv hv
      refine lam_call w (dp := dp + 1 + 1) (un := un + 3 + 3) (f := f) (c' := c) (cell := L' + 1) (P := P) (A1 := A1) (A2 := A2) (pm := pm) (ctv := ct) (oc := oc) (o := o9) (vr := vr) (kp := kp) (n1 := n1) (n2 := n2) (d1 := key x) (d2 := key y) (x1 := x) (x2 := y) (t1 := t1) (t2 := t2) (u1 := u1) (u2 := u2) (news := news') B2 F2 X2 (fun p hp => N2 p ?_) T2 kd2 (hcode.keeps stays) hd8 hv8 dP (by omega) (by omega) hvr9 ?_
      · rcases List.mem_cons.mp hp with e | hp
        · rw [e]; exact sub2 _ (.head _)
        rcases List.mem_cons.mp hp with e | hp
        · rw [e]; exact sub2 _ (.tail _ hcin)
        rcases List.mem_cons.mp hp with e | hp
        · rw [e]; exact sub2 _ (.tail _ (.tail _ (.tail _ (.head _))))
        rcases List.mem_cons.mp hp with e | hp
        · rw [e]; exact sub2 _ (.tail _ (.tail _ (.tail _ (.tail _ (.head _)))))
        rcases List.mem_cons.mp hp with e | hp
        · rw [e]; exact sub2 _ (.tail _ (.tail _ (.tail _ (.tail _ (.tail _ (List.mem_append_right _ hA1))))))
        rcases List.mem_cons.mp hp with e | hp
        · rw [e]; exact sub2 _ (.tail _ (.tail _ (.tail _ (.tail _ (.tail _ (List.mem_append_right _ hA2))))))
        exact hp
      · intro b h3 k3 hb F3 N3
        rw [hb]
        exact hret2 _ _ F3 (fun p hp => N3 p (.tail _ (.tail _ (.tail _ (.tail _ (.tail _ (.tail _ hp)))))))
    intro R Y Z yv zv y1 z1 h7 k7 hy hz F7 N7 sR sY sZ
    clear F8 N8 N9
    repeat' (first | (k_unfold; (try dsimp only)) | ((fail_if_success (with_reducible show wpAny _ _ (call (Value.ref 249) _) _ _ _)); (first | walk1 | (dsimp only; walk1))))
    (rename News _ _ _ _ => lN')
    (rename Fr _ _ _ _ => lF')
    have N9 : News g' L' _ ((244, tabF c) :: (Y, listOf (List.toArray yv) y1) :: (Z, listOf (List.toArray zv) z1) :: (L' + 1, o9) :: (P, listOf (List.toArray (Value.ref A1 :: vr)) kp) :: (D9, listOf (List.toArray (List.drop 1 (Value.ref A1 :: vr))) 0) :: (add ++ led)) := nsub lN' (by walk_at "mine:mem")
    have fY : Y ≠ 244 := sY 244 (by simp)
    have fZ : Z ≠ 244 := sZ 244 (by simp)
    have lsep2 : ∀ p ∈ (Y, listOf (List.toArray yv) y1) :: (Z, listOf (List.toArray zv) z1) :: (L' + 1, o9) :: (P, listOf (List.toArray (Value.ref A1 :: vr)) kp) :: (D9, listOf (List.toArray (List.drop 1 (Value.ref A1 :: vr))) 0) :: (add ++ led), p.1 ≠ 244 := by walk_at "mine:sep"
    have ts2 : TabSt ((Y, listOf (List.toArray yv) y1) :: (Z, listOf (List.toArray zv) z1) :: (L' + 1, o9) :: (P, listOf (List.toArray (Value.ref A1 :: vr)) kp) :: (D9, listOf (List.toArray (List.drop 1 (Value.ref A1 :: vr))) 0) :: (add ++ led)) (tabF c) := .inr ⟨c, oc, vq, tq, rfl, sub_mem hc8 (by walk_at "mine:mem"), hd8, hv8⟩
    clear lN'
    have q1 := List.length_filter_le (fun y => decide (key y < key x)) r
    have q2 := List.length_filter_le (fun y => !decide (key y < key x)) r
    k_here
    k_dflt (refine ih k rfl (dp := dp + 1) (un := un + 3) (by assumption) lF' (by assumption) N9 (by assumption) rfl hcode ts2 lsep2 (.head _) (hy.mono (fun p hp => .tail _ (.tail _ (.tail _ (.tail _ (.tail _ (List.mem_append_right _ hp))))))) (by omega) (by omega) (fun y hy9 => hok y (.tail _ (List.mem_filter.mp hy9).1)) (by omega) (by omega) ?_)
    intro G1 gv1 gn1 o1 add1 h6 k6 F6 N6 ts3 fG1 hadd1 S1
    clear lF' N9
    have N5 : News g' L' h6 ((G1, listOf (List.toArray gv1) gn1) :: (L' + 1, o9) :: (P, listOf (List.toArray (Value.ref A1 :: vr)) kp) :: (A1, pairO (key x) t1 x u1 n1) :: (244, o1) :: (Y, listOf (List.toArray yv) y1) :: (Z, listOf (List.toArray zv) z1) :: (D9, listOf (List.toArray (List.drop 1 (Value.ref A1 :: vr))) 0) :: (add1 ++ (add ++ led))) := nsub N6 (by walk_at "mine:mem")
    clear N6
    repeat' (first | (k_unfold; (try dsimp only)) | ((fail_if_success (with_reducible show wpAny _ _ (binaryOp _ _ _) _ _ _)); (first | walk1 | (dsimp only; walk1))))
    (rename News _ _ _ _ => lN')
    (rename Fr _ _ _ _ => lF')
    have b1 := ordF_len k (r.filter fun y => decide (key y < key x))
    have b2 := ordF_len k (r.filter fun y => !decide (key y < key x))
    k_here
    k_dflt (refine add_strs lF' lN' (.tail _ (.head _)) (.head _) S1 (.cons _ _ .nil) (by simp only [List.length_cons, List.length_nil]; omega) ?_)
    intro D5 w5 h5 F5 N4 l5 S5
    have fD5 : D5 ≠ 244 := Nat.ne_of_gt (l5 (244, o1) (by simp))
    clear lF' lN' l5
    have N5 : News g' L' h5 ((244, o1) :: (D5, listOf (List.toArray w5) 0) :: (G1, listOf (List.toArray gv1) gn1) :: (Y, listOf (List.toArray yv) y1) :: (Z, listOf (List.toArray zv) z1) :: (L' + 1, o9) :: (P, listOf (List.toArray (Value.ref A1 :: vr)) kp) :: (D9, listOf (List.toArray (List.drop 1 (Value.ref A1 :: vr))) 0) :: (add1 ++ (add ++ led))) := nsub N4 (by walk_at "mine:mem")
    have lsep3 : ∀ p ∈ (D5, listOf (List.toArray w5) 0) :: (G1, listOf (List.toArray gv1) gn1) :: (Y, listOf (List.toArray yv) y1) :: (Z, listOf (List.toArray zv) z1) :: (L' + 1, o9) :: (P, listOf (List.toArray (Value.ref A1 :: vr)) kp) :: (D9, listOf (List.toArray (List.drop 1 (Value.ref A1 :: vr))) 0) :: (add1 ++ (add ++ led)), p.1 ≠ 244 := by walk_at "mine:sep"
    have ts4 := tab_mono (l' := (D5, listOf (List.toArray w5) 0) :: (G1, listOf (List.toArray gv1) gn1) :: (Y, listOf (List.toArray yv) y1) :: (Z, listOf (List.toArray zv) z1) :: (L' + 1, o9) :: (P, listOf (List.toArray (Value.ref A1 :: vr)) kp) :: (D9, listOf (List.toArray (List.drop 1 (Value.ref A1 :: vr))) 0) :: (add1 ++ (add ++ led))) ts3 (by walk_at "mine:mem")
    clear N4
    repeat' (first | (k_unfold; (try dsimp only)) | ((fail_if_success (with_reducible show wpAny _ _ (call (Value.ref 249) _) _ _ _)); (first | walk1 | (dsimp only; walk1))))
    k_here
    k_dflt (refine ih k rfl (dp := dp + 1) (un := un + 3) (by assumption) F5 (by assumption) N5 (by assumption) rfl hcode ts4 lsep3 (.tail _ (.tail _ (.tail _ (.head _)))) (hz.mono (fun p hp => .tail _ (.tail _ (.tail _ (.tail _ (.tail _ (.tail _ (.tail _ (List.mem_append_right _ (List.mem_append_right _ hp)))))))))) (by omega) (by omega) (fun y hy9 => hok y (.tail _ (List.mem_filter.mp hy9).1)) (by omega) (by omega) ?_)
    intro G2 gv2 gn2 o2 add2 h4 k4 F4 N6 ts5 fG2 hadd2 S2
    clear F5 N5
    have N7 : News g' L' h4 ((G2, listOf (List.toArray gv2) gn2) :: (D5, listOf (List.toArray w5) 0) :: (244, o2) :: (add2 ++ (G1, listOf (List.toArray gv1) gn1) :: (Y, listOf (List.toArray yv) y1) :: (Z, listOf (List.toArray zv) z1) :: (L' + 1, o9) :: (P, listOf (List.toArray (Value.ref A1 :: vr)) kp) :: (D9, listOf (List.toArray (List.drop 1 (Value.ref A1 :: vr))) 0) :: (add1 ++ (add ++ led)))) := nsub N6 (by walk_at "mine:mem")
    clear N6
    repeat' (first | (k_unfold; (try dsimp only)) | ((fail_if_success (with_reducible show wpAny _ _ (binaryOp _ _ _) _ _ _)); (first | walk1 | (dsimp only; walk1))))
    k_here
    k_dflt (refine add_strs F4 N7 (.tail _ (.head _)) (.head _) S5 S2 (by simp only [List.length_append, List.length_cons, List.length_nil]; omega) ?_)
    intro D6 w6 h3 F3 N3 l6 S6
    have fD6 : D6 ≠ 244 := Nat.ne_of_gt (l6 (244, o2) (by simp))
    clear F4 N7 l6
    repeat' (first | (k_unfold; (try dsimp only)) | (k_end; wrow_close) | walk1 | (dsimp only; walk1) | (leave1; walk_say "STEP leave1"; try dsimp only))
    (rename News _ _ _ _ => lN')
    refine hret D6 w6 0 o2 ((G2, listOf (List.toArray gv2) gn2) :: (D5, listOf (List.toArray w5) 0) :: (add2 ++ (G1, listOf (List.toArray gv1) gn1) :: (Y, listOf (List.toArray yv) y1) :: (Z, listOf (List.toArray zv) z1) :: (L' + 1, o9) :: (P, listOf (List.toArray (Value.ref A1 :: vr)) kp) :: (D9, listOf (List.toArray (List.drop 1 (Value.ref A1 :: vr))) 0) :: (add1 ++ add))) _ _ (by assumption) (nsub lN' (by walk_at "mine:mem")) (tab_mono ts5 (by walk_at "mine:mem")) fD6 (by walk_at "mine:sep") S6
theorem ord_all (w : World) (mean : ExcName → Option Value) (mg mb : Str → Option Value) : ∀ n, Ord w mean mg mb n
  | 0 => ord_step w mean mg mb 0 (fun k e => by omega)
  | n + 1 => ord_step w mean mg mb (n + 1) (fun k e => by
    have : n = k := by omega
    subst this
    exact @ord_all w mean mg mb n)
end Mine

end
/-! part St12 -/
section
open PySem PySem.W PyProof.Rows PySem.Calls PySem.Spec PyProof.V
namespace Mine
theorem ordF_sorted : ∀ (n : Nat) (xs l : List Str), xs.Perm l → xs.length ≤ n → l.Pairwise (fun a b => key a < key b) → ordF n xs = l
  | 0, xs, l, hp, hn, _ => by
    have : xs = [] := List.eq_nil_of_length_eq_zero (by omega)
    subst this
    rw [List.nil_perm.mp hp]
    rfl
  | n + 1, [], l, hp, _, _ => by
    rw [List.nil_perm.mp hp]
    rfl
  | n + 1, x :: r, l, hp, hn, hs => by
    have hx : x ∈ l := hp.mem_iff.mp (.head _)
    obtain ⟨l1, l2, rfl⟩ := List.append_of_mem hx
    have hr : r.Perm (l1 ++ l2) := (hp.trans List.perm_middle).cons_inv
    rw [List.pairwise_append] at hs
    obtain ⟨s1, s2, s3⟩ := hs
    rw [List.pairwise_cons] at s2
    have a1 : ∀ y ∈ l1, key y < key x := fun y hy => s3 y hy x (.head _)
    have a2 : ∀ y ∈ l2, key x < key y := s2.1
    have f1 : (l1 ++ l2).filter (fun y => decide (key y < key x)) = l1 := by
      rw [List.filter_append, List.filter_eq_self.mpr (fun y hy => by simpa using a1 y hy), List.filter_eq_nil_iff.mpr (fun y hy => by have := a2 y hy; simp; omega), List.append_nil]
    have f2 : (l1 ++ l2).filter (fun y => !decide (key y < key x)) = l2 := by
      rw [List.filter_append, List.filter_eq_nil_iff.mpr (fun y hy => by simpa using a1 y hy), List.filter_eq_self.mpr (fun y hy => by have := a2 y hy; simp; omega), List.nil_append]
    have p1 := hr.filter (fun y => decide (key y < key x))
    have p2 := hr.filter (fun y => !decide (key y < key x))
    rw [f1] at p1
    rw [f2] at p2
    simp only [List.length_cons] at hn
    have q1 := List.length_filter_le (fun y => decide (key y < key x)) r
    have q2 := List.length_filter_le (fun y => !decide (key y < key x)) r
    show (ordF n _ ++ [x]) ++ ordF n _ = _
    rw [ordF_sorted n _ _ p1 (by omega) s1, ordF_sorted n _ _ p2 (by omega) s2.2, List.append_assoc]
    rfl
theorem road_up : ∀ T ∈ allTexts, (textsOf T).Pairwise (fun a b => key a < key b) := by decide +kernel
theorem range_txt (Ts : List Str) : (rangeKs 0 Ts.length).map (txtN Ts) = Ts := by
  refine List.ext_getElem (by simp [rangeKs_length]) fun i h1 h2 => ?_
  simp [rangeKs, txtN, h2]
theorem in_order {T : Str} (hT : T ∈ allTexts) {os : List Int} (hp : os.Perm (rangeKs 0 (textsOf T).length)) (hl : os.length ≤ 5) : ordF 5 (os.map (txtN (textsOf T))) = textsOf T := by
  refine ordF_sorted 5 _ _ ?_ (by simpa using hl) (road_up T hT)
  have := hp.map (txtN (textsOf T))
  rwa [range_txt] at this
theorem dat_move {l l' : List (Addr × Obj)} (h : ∀ (B : Addr) (d : Int) (t : Tok) (x : Str) (u : Tok) (n : Nat), (B, pairO d t x u n) ∈ l → (B, pairO d t x u n) ∈ l') : ∀ {vs : List Value} {xs : List Str}, DatAll l vs (xs.map pairD) → DatAll l' vs (xs.map pairD)
  | [], [], _ => .nil
  | _ :: _, [], r => nomatch r
  | [], _ :: _, r => nomatch r
  | v :: vs, x :: xs, r => by
    cases r with
    | cons h1 h2 =>
      obtain ⟨B, t, u, n, rfl, hB⟩ := pair_inv h1
      exact .cons (.tuple (h _ _ _ _ _ _ hB) (.cons (.int _ _) (.cons (.str _ _) .nil))) (dat_move h h2)
set_option maxRecDepth 100000 in
set_option maxHeartbeats 8000000 in
theorem law_st12 (w : World) {mean : ExcName → Option Value} {mg mb : Str → Option Value} {aa : Addr} {ccd : Value} {L C1 C2 : Addr} {base h₀ h9 : Heap} {tk9 : Nat} {m0 : Str → Option Value} {s : Shared} {Q : Flow → Shared → Prop} {E : Value → Shared → Prop} {news : List (Addr × Obj)}
    {T : Str} {o1 o2 : Obj} {vts vps : List Value} {n k : Nat} {TX P : Addr} {os : List Int} {rest : List (Addr × Obj)}
    (B' : Below callerA base [] h₀) (X' : (Mine.hd.heap_39 w.params).In h₀) (T' : Top topProg looseG mean mg mb h₀)
    (F' : Fr h₀ L h9 (fun y => if y = (Str.ofString "pairs") then some (.ref P) else m0 y))
    (N' : News h₀ L h9 ((P, listOf (List.toArray vps) k) :: rest))
    (hT : T ∈ allTexts) (hd2 : o2.data = .cell (some (.ref TX))) (hTs : StrsAre vts (textsOf T)) (hpe : os.Perm (rangeKs 0 (textsOf T).length)) (hcode : CodeHd base 248 244)
    (hda : DatAll rest vps ((os.map (txtN (textsOf T))).map pairD)) (hin : ∀ p ∈ (TX, listOf (List.toArray vts) n) :: (C2, o2) :: (C1, o1) :: (244, tabObj #[]) :: [], p ∈ rest)
    (hq : ∀ (h : Heap) (tk : Nat) (o' : Obj) (led : List (Addr × Obj)), (∃ ps, o' = tabObj ps) → Fr h₀ L h (fun y => if y = Str.ofString "pairs" then some (.ref P) else m0 y) → News h₀ L h ((244, o') :: led) → Q (.ret (.bool true)) { s with heap := h, toks := tk }) :
    wpAny (model PySem.Challenge.rw_pe0249_01.row.prog w) (callerA.deeper (lawEnv L aa ccd C1 C2)) (exec (stAt 23 12) (lawEnv L aa ccd C1 C2)) Q
      (fun e s' => wpAny (model PySem.Challenge.rw_pe0249_01.row.prog w) (callerA.deeper (lawEnv L aa ccd C1 C2)) (leaving (lawEnv L aa ccd C1 C2) e) (fun _ s'' => E e s'') (fun e' s'' => E e' s'') s') { s with heap := h9, toks := tk9 } := by
  have : Mine.hd.heap_39 w.params = Mine.hd.heap_39 w.params ∧ PySem.Challenge.rw_pe0249_01 = PySem.Challenge.rw_pe0249_01 := by
    k_fill
    exact ⟨rfl, rfl⟩
  clear this
  k_with_none
  w_top off
  dsimp only [lawEnv]
  with_unfolding_all show wpAny _ _ (exec (Stmt.Return _ _) _) _ _ _
  have hsc : fnScope 23 = fnScope 23 := rfl
  conv at hsc => rhs; whnf
  rw [hsc]
  clear hsc
  (try k_fold)
  obtain ⟨a1, a2⟩ := len_ok T hT
  have hlt : (textsOf T).length = T.length - 1 := by simp only [textsOf, crams, List.length_append, List.length_map, rangeKs_length, List.length_cons, List.length_nil]; omega
  have hol : os.length = (textsOf T).length := by rw [hpe.length_eq, rangeKs_length]
  have iTX := hin (TX, listOf (List.toArray vts) n) (by simp)
  have iC2 := hin (C2, o2) (by simp)
  have iTab := hin (244, tabObj #[]) (by simp)
  (rename News _ _ _ _ => lN')
  (rename Fr _ _ _ _ => lF')
  have uniq : ∀ p ∈ (P, listOf (List.toArray vps) k) :: rest, p.1 = 244 → p.2 = tabObj #[] := by
    intro p hp e
    have g1 := (lN' p hp).1
    have g2 := (lN' _ (.tail _ iTab)).1
    rw [e, g2] at g1
    exact (Option.some.inj g1).symm
  obtain ⟨led, hled⟩ : ∃ led, led = ((P, listOf (List.toArray vps) k) :: rest).filter (fun p => decide (p.1 ≠ 244)) := ⟨_, rfl⟩
  have inled : ∀ p ∈ (P, listOf (List.toArray vps) k) :: rest, p.2 ≠ tabObj #[] → p ∈ led := by
    intro p hp hne
    rw [hled]
    exact List.mem_filter.mpr ⟨hp, by simpa using fun e => hne (uniq p hp e)⟩
  have fl : ∀ p ∈ led, p.1 ≠ 244 := by
    intro p hp
    rw [hled] at hp
    simpa using (List.mem_filter.mp hp).2
  have jP : (P, listOf (List.toArray vps) k) ∈ led := inled _ (.head _) (by intro e; cases e)
  have jTX : (TX, listOf (List.toArray vts) n) ∈ led := inled _ (.tail _ iTX) (by intro e; cases e)
  have jC2 : (C2, o2) ∈ led := inled _ (.tail _ iC2) (by intro e; rw [show o2 = tabObj #[] from e] at hd2; cases hd2)
  have hda2 : DatAll led vps ((os.map (txtN (textsOf T))).map pairD) := dat_move (fun B d t x u n hB => inled _ (.tail _ hB) (by intro e; cases e)) hda
  have N2 : News h₀ L h9 ((244, tabObj #[]) :: led) := fun p hp => lN' p (by
    rcases List.mem_cons.mp hp with e | hp
    · rw [e]; exact .tail _ iTab
    · rw [hled] at hp
      exact (List.mem_filter.mp hp).1)
  clear lN'
  repeat' (first | (k_unfold; (try dsimp only)) | ((fail_if_success (with_reducible show wpAny _ _ (call (Value.ref 249) _) _ _ _)); (first | walk1 | (dsimp only; walk1))))
  k_here
  k_dflt (refine ord_all w mean mg mb 5 (dp := 302) (un := 7) B' (by k_asm) X' N2 T' rfl hcode (.inl rfl) fl jP hda2 (by simp only [List.length_map]; omega) (by simp only [List.length_map]; omega) (txts_ok hT os) (by decide) (by decide) ?_)
  intro G gv gn o' add h8 k8 F8 N8 ts fG hadd S
  rw [in_order hT hpe (by omega)] at S
  have hps : ∃ ps, o' = tabObj ps := by
    rcases ts with e | ⟨c, _, _, _, e, _⟩
    · exact ⟨_, e⟩
    · exact ⟨_, e⟩
  have N9 : News h₀ L h8 ((G, listOf (List.toArray gv) gn) :: (TX, listOf (List.toArray vts) n) :: (C2, o2) :: (244, o') :: (add ++ led)) := fun p hp => N8 p (by
    simp only [List.mem_cons, List.mem_append] at hp ⊢
    rcases hp with e | e | e | e | e | e
    · simp [e]
    · rw [e]; simp [jTX]
    · rw [e]; simp [jC2]
    · simp [e]
    · simp [e]
    · simp [e])
  clear lF' N2
  repeat' (first | (k_unfold; (try dsimp only)) | ((fail_if_success (with_reducible show wpAny _ _ (compareOp _ _ _) _ _ _)); (first | walk1 | (dsimp only; walk1))))
  k_here
  k_dflt (refine eq_strs (by k_asm) (.head _) (.tail _ (.head _)) S hTs (fun x hx => (txt_ok T hT x hx).2) rfl (by ke_room) ?_)
  repeat' (first | (k_unfold; (try dsimp only)) | (k_end; wrow_close) | walk1 | (dsimp only; walk1) | (leave1; walk_say "STEP leave1"; try dsimp only))
  exact hq _ _ o' (add ++ led) hps (by assumption) (fun p hp => N9 p (by
    rcases List.mem_cons.mp hp with e | hp
    · rw [e]; exact .tail _ (.tail _ (.tail _ (.head _)))
    · exact .tail _ (.tail _ (.tail _ (.tail _ hp)))))
end Mine

end
/-! part LawA -/
section
open PySem PySem.W PyProof.Rows PySem.Calls PySem.Spec PyProof.V
namespace Mine
theorem rot5 {h₀ h : Heap} {L : Addr} {a b c d e : Addr × Obj} (N : News h₀ L h (a :: b :: c :: d :: e :: [])) : News h₀ L h (c :: d :: e :: a :: b :: []) := fun p hp => N p (by
  simp only [List.mem_cons, List.not_mem_nil, or_false] at hp ⊢
  rcases hp with e | e | e | e | e <;> simp [e])
theorem rot5b {h₀ h : Heap} {L : Addr} {a b c d e : Addr × Obj} (N : News h₀ L h (c :: d :: e :: a :: b :: [])) : News h₀ L h (a :: b :: c :: d :: e :: []) := fun p hp => N p (by
  simp only [List.mem_cons, List.not_mem_nil, or_false] at hp ⊢
  rcases hp with e | e | e | e | e <;> simp [e])
set_option maxRecDepth 100000 in
set_option maxHeartbeats 8000000 in
theorem law_all (w : World) {mean : ExcName → Option Value} {mg mb : Str → Option Value} {aa : Addr} {ccd : Value} {L C1 C2 : Addr} {base h₀ h9 : Heap} {tk9 : Nat} {m0 : Str → Option Value} {s : Shared} {Q : Flow → Shared → Prop} {E : Value → Shared → Prop}
    {SC : Addr} {vs : List Value} {ns : List Int} {o1 o2 : Obj} {v1 v2 : Option Value}
    (B' : Below callerA base [] h₀) (X' : (Mine.hd.heap_39 w.params).In h₀) (T' : Top topProg looseG mean mg mb h₀) (hcode : CodeHd base 248 244)
    (F' : Fr h₀ L h9 (fun y => if y = (Str.ofString "script") then some (.ref SC) else m0 y))
    (N' : News h₀ L h9 ((C2, o2) :: (C1, o1) :: (244, tabObj #[]) :: []))
    (hl : h₀.IsList SC vs.toArray) (hI : IntsAre vs ns) (hn : ns.length ≤ 63) (hd1 : o1.data = .cell v1) (hd2 : o2.data = .cell v2) (hC : @LT.lt Nat _ C1 C2) (hC1 : @LT.lt Nat _ 244 C1) (hC2 : @LT.lt Nat _ 244 C2)
    (hq : ∀ (h : Heap) (tk : Nat) (o' : Obj) (led : List (Addr × Obj)) (m' : Str → Option Value), (∃ ps, o' = tabObj ps) → Fr h₀ L h m' → News h₀ L h ((244, o') :: led) → Q (.ret (.bool true)) { s with heap := h, toks := tk }) :
    wpAny (model PySem.Challenge.rw_pe0249_01.row.prog w) (callerA.deeper (lawEnv L aa ccd C1 C2)) (execs (fnBody 23) (lawEnv L aa ccd C1 C2)) Q
      (fun e s' => wpAny (model PySem.Challenge.rw_pe0249_01.row.prog w) (callerA.deeper (lawEnv L aa ccd C1 C2)) (leaving (lawEnv L aa ccd C1 C2) e) (fun _ s'' => E e s'') (fun e' s'' => E e' s'') s') { s with heap := h9, toks := tk9 } := by
  have hb : fnBody 23 = [stAt 23 0, stAt 23 1, stAt 23 2, stAt 23 3, stAt 23 4, stAt 23 5, stAt 23 6, stAt 23 7, stAt 23 8, stAt 23 9, stAt 23 10, stAt 23 11, stAt 23 12] := rfl
  rw [hb]
  clear hb
  have hT := textOf_in ns
  have hmk := txt_ok _ hT (markS (textOf ns)) (by simp [textsOf])
  refine wpAny_execs_cons (law_st0 w (v2 := none) (tS := 0) (news := []) B' X' T' F' N' hl hI hn hd1 hC hC1 hC2 ?_)
  intro h1 k1 tT p1 F1 N1 d1
  dsimp only
  clear F' N' hd1
  refine wpAny_execs_cons (law_st1 w (news := []) B' X' T' F1 N1 hT d1 hC hC1 hC2 ?_)
  intro h2 k2 tM F2 N2
  dsimp only
  clear F1 N1
  refine wpAny_execs_cons (law_st2 w (news := []) B' X' T' F2 N2 hT d1 hC hC1 hC2 ?_)
  intro h3 k3 D TT t1 t2 F3 N3 lD lT
  dsimp only
  clear F2 N2
  have c2 : @LT.lt Nat _ C2 TT := lT (C2, o2) (by simp)
  have c1 : @LT.lt Nat _ C1 TT := lT (C1, p1) (by simp)
  have c0 : @LT.lt Nat _ 244 TT := lT (244, tabObj #[]) (by simp)
  refine wpAny_execs_cons (law_st3 w (news := []) B' X' T' (fr_re2 F3 (x := Str.ofString "marked") (y := Str.ofString "quoted") (v := .str (markS (textOf ns)) tM) (u := .ref D) (by with_unfolding_all rfl) (by with_unfolding_all rfl)) N3 lD ⟨c2, c1, c0⟩ hC hC1 hC2 hmk.1 hmk.2 ?_)
  intro h4 k4 F4 N4
  dsimp only
  clear F3 N3
  refine wpAny_execs_cons (law_st4 w (news := (D, listOf #[Value.ref TT] 0) :: (TT, { cls := Value.type "tuple", data := Data.seq #[Value.str (Str.ofString "one") t1, Value.str (markS (textOf ns)) t2] }) :: []) B' X' T' F4 (rot5 N4) hT d1 hC hC1 hC2 ?_)
  intro h5 k5 F5 N5
  dsimp only
  clear F4 N4
  refine wpAny_execs_cons (law_st5 w (news := []) B' X' T' (fr_re F5 (x := Str.ofString "quoted") (v := .ref D) (by with_unfolding_all rfl)) (rot5b N5) hT d1 hd2 lD ⟨c2, c1, c0⟩ ⟨Nat.lt_trans c2 lD, Nat.lt_trans c1 lD, Nat.lt_trans c0 lD⟩ hC hC1 hC2 ?_)
  intro h6 k6 TX vts n p2 F6 N6 d2 S6 x2 x1 x0
  dsimp only
  clear F5 N5 hd2
  refine wpAny_execs_cons (law_st6 w (news := []) B' X' T' F6 N6 hT d1 d2 S6 ⟨x2, x1, x0⟩ hC hC1 hC2 ?_)
  intro h7 k7 F7 N7
  dsimp only
  clear F6 N6
  refine wpAny_execs_cons (law_st7 w (news := []) B' X' T' (fr_re F7 (x := Str.ofString "marked") (v := .str (markS (textOf ns)) tM) (by with_unfolding_all rfl)) N7 hT d1 d2 S6 ⟨x2, x1, x0⟩ hC hC1 hC2 ?_)
  intro h8 k8 PL vps k F8 N8 I8 lP
  dsimp only
  clear F7 N7
  refine wpAny_execs_cons (law_st8 w (tT := tT) (news := []) B' X' T' F8 N8 hT d2 S6 I8 ⟨x2, x1, x0⟩ lP hC hC1 hC2 ?_)
  intro h10 k10 m10 F10 e10 N10
  dsimp only
  clear F8 N8
  have es := (e10 (Str.ofString "script") (by decide) (by decide) (by decide) (by decide)).trans (by with_unfolding_all rfl : _ = some (Value.ref SC))
  refine wpAny_execs_cons (law_st9 w (news := []) B' X' T' (fr_re F10 es) (fun p hp => N10 p (.tail _ hp)) hl hI hn hT d2 S6 ⟨x2, x1, x0⟩ hC hC1 hC2 ?_)
  intro h11 k11 X D' H OR tk0 vos vhs kh n2 os own hpe hio hda F11 N11 hsep
  dsimp only
  clear F10 N10 e10 es
  refine wpAny_execs_cons (law_st10 w (news := []) B' X' T' F11 N11 hT d2 S6 hpe hio hda ?_)
  intro h12 k12 F12 N12
  dsimp only
  clear F11 N11
  refine wpAny_execs_cons (law_st11 w (news := []) B' X' T' F12 N12 hT d2 S6 hpe hio hda ?_)
  intro h13 k13 P vps2 k2' rest hda2 hin F13 N13
  dsimp only
  clear F12 N12
  refine wpAny_execs_cons (law_st12 w (news := []) B' X' T' F13 N13 hT d2 S6 hpe hcode hda2 hin ?_)
  intro h14 k14 o' led hps F14 N14
  exact hq _ _ o' led _ hps F14 N14
set_option maxRecDepth 100000 in
set_option maxHeartbeats 800000 in
theorem law_go (w : World) {mean : ExcName → Option Value} {mg mb : Str → Option Value} {aa : Addr} {ccd : Value} {L C1 C2 : Addr} {base h₀ h9 : Heap} {tk9 : Nat} {m0 : Str → Option Value} {s : Shared} {Q : Flow → Shared → Prop} {E : Value → Shared → Prop}
    {SC : Addr} {vs : List Value} {ns : List Int} {o1 o2 : Obj} {v1 v2 : Option Value} {env : Env} {body : List Stmt}
    (B' : Below callerA base [] h₀) (X' : (Mine.hd.heap_39 w.params).In h₀) (T' : Top topProg looseG mean mg mb h₀) (hcode : CodeHd base 248 244)
    (F' : Fr h₀ L h9 (fun y => if y = (Str.ofString "script") then some (.ref SC) else m0 y))
    (N' : News h₀ L h9 ((C2, o2) :: (C1, o1) :: (244, tabObj #[]) :: []))
    (hl : h₀.IsList SC vs.toArray) (hI : IntsAre vs ns) (he : env = lawEnv L aa ccd C1 C2) (hbd : body = fnBody 23) (hn : ns.length ≤ 63) (hd1 : o1.data = .cell v1) (hd2 : o2.data = .cell v2) (hC : @LT.lt Nat _ C1 C2) (hC1 : @LT.lt Nat _ 244 C1) (hC2 : @LT.lt Nat _ 244 C2)
    (hq : ∀ (h : Heap) (tk : Nat) (o' : Obj) (led : List (Addr × Obj)) (m' : Str → Option Value), (∃ ps, o' = tabObj ps) → Fr h₀ L h m' → News h₀ L h ((244, o') :: led) → Q (.ret (.bool true)) { s with heap := h, toks := tk }) :
    wpAny (model PySem.Challenge.rw_pe0249_01.row.prog w) (callerA.deeper env) (execs body env) Q
      (fun e s' => wpAny (model PySem.Challenge.rw_pe0249_01.row.prog w) (callerA.deeper env) (leaving env e) (fun _ s'' => E e s'') (fun e' s'' => E e' s'') s') { s with heap := h9, toks := tk9 } := by
  subst he hbd
  exact law_all w B' X' T' hcode F' N' hl hI hn hd1 hd2 hC hC1 hC2 hq
end Mine

end
end
section
open PySem PySem.W PyProof.Rows PySem.Calls PySem.Spec PyProof.V Mine
set_option maxRecDepth 100000 in
set_option maxHeartbeats 8000000 in
theorem PySem.Challenge.cw_pe0249_01_holds : PySem.Challenge.rw_pe0249_01.Holds := by
  exact Mine.hd (by
  k_with_none
  w_top off
  k_go0
  (with_reducible rename Fr _ _ _ _ => lF')
  (with_reducible rename News _ _ _ _ => lN')
  (with_reducible rename Below _ _ _ _ => lB')
  (with_reducible rename CodeHd _ _ _ => lC')
  (with_reducible rename Heap.IsList (ghostOf _ _) _ _ => lL')
  (with_reducible rename IntsAre _ _ => lI')
  (with_reducible rename Top topProg _ _ _ _ _ => lT')
  (with_reducible rename Frag.In (Mine.hd.heap_39 _) _ => lX')
  have hb := fr_re (x := Str.ofString "script") lF' (by with_unfolding_all rfl)
  refine' law_go _ lB' lX' lT' lC' hb lN' lL' lI' ?he ?hbd ?hn ?hd1 ?hd2 ?hC ?hC1 ?hC2 ?hq
  case hbd => rfl
  case he => rfl
  case hn => omega
  case hd1 => with_reducible assumption
  case hd2 => with_reducible assumption
  case hC => exact Nat.lt_succ_self _
  case hC1 => exact Nat.lt_succ_of_lt (by with_reducible assumption)
  case hC2 => exact Nat.lt_succ_of_lt (Nat.lt_succ_of_lt (by with_reducible assumption))
  case hq =>
    rintro h tk o' led m' ⟨ps, rfl⟩ F N
    clear lF' lN' hb
    repeat' (first | (k_unfold; (try dsimp only)) | (k_end; wrow_close) | walk1 | (dsimp only; walk1)))
end
#print axioms PySem.Challenge.cw_pe0249_01_holds
