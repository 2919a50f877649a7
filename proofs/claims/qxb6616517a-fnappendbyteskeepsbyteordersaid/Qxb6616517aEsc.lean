/-
  THE WALKS of tuple.appendEscaped[[]byte] (7) and tuple.AppendBytes (6).
-/
import Derived.Test.Qxb6616517aCmp
import Derived.Laws.AppendOwnNone
namespace Go.Proofs.Qxb6616517a
open Go.RowKit
open Plain

theorem info5 : (Try.prog.info? 5).map (fun i => (i.zero, i.size, i.bytes)) = some (some (.int .u8 0), 1, 1) := by kernel_rfl

/-- The cells of 's[f:f+m]' where they lie. -/
theorem cells_cut {w : World} {b o n : Nat} {S : List Int} (hS : S.length = n) (hcell : ∀ t, t < n → w.cell? ⟨b, o + t, none⟩ = some (.int .u8 (S.getD t 0))) (f m : Nat) (hm : m ≤ n) :
    ∀ t u, (((S.take m).drop f).map (Value.int .u8))[t]? = some u → w.cell? ((⟨b, o + f, none⟩ : Addr).add t) = some u := by
  intro t u hu
  have ht : t < m - f := by
    have := (List.getElem?_eq_some_iff.1 hu).1
    simp at this; omega
  rw [Addr.add_lit, Nat.add_assoc, hcell (f + t) (by omega)]
  have e : (((S.take m).drop f).map (Value.int .u8))[t]? = some (.int .u8 (S.getD (f + t) 0)) := by
    simp [List.getD, show f + t < S.length by omega, show f + t < m by omega]
  rw [e] at hu
  exact hu

theorem one_cell (w : World) (k : IntKind) (z : Int) : ∀ t u, ([Value.int k z] : List Value)[t]? = some u → (w.alloc (.cells #[.int k z] 5)).cell? ((⟨w.heap.size, 0, none⟩ : Addr).add t) = some u := by
  intro t u ht
  match t, ht with
  | 0, ht => simp at ht; subst ht; simp [Addr.add]

theorem own_hit {B : Nat} {w : World} {v : Value} {pre S L : List Int} {f k n : Nat} (hL : L = pre ++ esc (S.take f)) (hfk : f ≤ k) (hk : k < S.length) (h0 : S.getD k 0 = 0) (hfree : ∀ j, f ≤ j → j < k → S.getD j 0 ≠ 0)
    (h : w.ownsRow B 5 1 v n (L.map (Value.int .u8) ++ ((S.take (k + 1)).drop f).map (Value.int .u8) ++ [.int .u8 255])) :
    ∃ L', L' = pre ++ esc (S.take (k + 1)) ∧ w.ownsRow B 5 1 v L'.length (L'.map (Value.int .u8)) := by
  refine ⟨_, rfl, ?_⟩
  have e : L.map (Value.int .u8) ++ ((S.take (k + 1)).drop f).map (Value.int .u8) ++ [.int .u8 255] = (pre ++ esc (S.take (k + 1))).map (Value.int .u8) := by
    rw [esc_hit S f k hfk hk h0 hfree, hL]; simp
  rw [e] at h
  have := h.1
  simp only [List.length_map, Nat.mul_one] at this
  rw [this]; exact h

theorem own_end {B : Nat} {w : World} {v : Value} {pre S L : List Int} {f n : Nat} (hL : L = pre ++ esc (S.take f)) (hfree : ∀ j, f ≤ j → j < S.length → S.getD j 0 ≠ 0)
    (h : w.ownsRow B 5 1 v n (L.map (Value.int .u8) ++ (S.drop f).map (Value.int .u8) ++ [.int .u8 0])) :
    ∃ L', L' = pre ++ (esc S ++ [0]) ∧ w.ownsRow B 5 1 v L'.length (L'.map (Value.int .u8)) := by
  refine ⟨_, rfl, ?_⟩
  have e : L.map (Value.int .u8) ++ (S.drop f).map (Value.int .u8) ++ [.int .u8 0] = (pre ++ (esc S ++ [0])).map (Value.int .u8) := by
    rw [esc_end S f hfree, hL]; simp
  rw [e] at h
  have := h.1
  simp only [List.length_map, Nat.mul_one] at this
  rw [this]; exact h

theorem below_two {B : Nat} {w wr w1 w2 : World} {r1 r2 : Option Nat} {o : Obj} (hnx : Below B w wr) (hB : B ≤ w.heap.size) (h1 : wr.grownBy w1 r1) (b1 : ∀ k, r1 = some k → B ≤ k) (h2 : (w1.alloc o).grownBy w2 r2) (b2 : ∀ k, r2 = some k → B ≤ k) : Below B w w2 := by
  have s0 := hnx.size
  have s1 := h1.size
  exact ((hnx.grown h1 (by omega) b1).alloc (by omega) o).grown h2 (by simp; omega) b2

set_option maxHeartbeats 400000 in
theorem esc_some (B : Nat) (v : Value) (pre : List Int) (gs os ns cs : Nat) (S : List Int) (w : World) (hB : B ≤ w.heap.size) (hgs : gs < B) (hS : S.length = ns) (hnc : ns ≤ cs) (hns : ns ≤ 524288) (hpre : pre.length ≤ 16)
    (hown : w.ownsRow B 5 1 v pre.length (pre.map (Value.int .u8))) (hcell : ∀ t, t < ns → w.cell? ⟨gs, os + t, none⟩ = some (.int .u8 (S.getD t 0))) :
    Calls Try.prog 7 #[v, .slice (some ⟨gs, os, none⟩) ns cs] w fun e w' => ∃ v', e = .returned v' ∧ ∃ L, Hid (L = pre ++ (esc S ++ [0])) ∧ w'.ownsRow B 5 1 v' L.length (L.map (Value.int .u8)) ∧ Below B w w' := by
  obtain ⟨i0, hi, hz0, hz1, hz2⟩ := info_parts info5
  go_enter Try.func7, Try.ntmps7
  go_wp2
  go_loopw [0, 5, 6] (fun vb vf vi wr => ∃ (k f : Nat) (L : List Int), f ≤ k ∧ k ≤ ns ∧ vi = .int .i64 k ∧ vf = .int .i64 f ∧ Hid (L = pre ++ esc (S.take f)) ∧ wr.ownsRow B 5 1 vb L.length (L.map (Value.int .u8)) ∧ Below B w wr ∧ Hid (∀ j, f ≤ j → j < k → S.getD j 0 ≠ 0)) (fun _ _ vi _ => ns - (intOf vi).toNat)
  case atStart => exact ⟨0, 0, pre, Nat.le_refl _, Nat.zero_le _, rfl, rfl, by simp [Hid, esc], hown, Below.refl _ _, fun j h1 h2 => by omega⟩
  case round =>
    obtain ⟨k, f, L, hfk, hkn, rfl, rfl, hL, hown', hnx, hfree⟩ := hrel
    have hLl : L.length ≤ 16 + 2 * f := by
      rw [hL.out]; have := esc_le (S.take f); simp at this ⊢; omega
    have hsz := hnx.size
    have hcr : ∀ t, t < ns → wr.cell? ⟨gs, os + t, none⟩ = some (.int .u8 (S.getD t 0)) := fun t h => (hnx.cell (by exact hgs)).trans (hcell t h)
    clear hcell
    by_cases hlt : k < ns
    · have g := hcr k hlt
      obtain ⟨u, hu⟩ : ∃ u, S.getD k 0 = u := ⟨_, rfl⟩
      rw [hu] at g
      have Hu : Hid (S.getD k 0 = u) := hu
      clear hu
      have i1 : (k : Int) < (ns : Int) := by omega
      by_cases hu0 : u = 0
      · subst hu0
        have HC : Hid (∀ t, t < ns → wr.cell? ⟨gs, os + t, none⟩ = some (.int .u8 (S.getD t 0))) := hcr
        clear hcr
        go_wp2_with (first
          | (at_builtin; refine wpList_append_own _ rfl (.tmp 18) (.tmp 23) 22 rfl B 5 i0 (.int .u8 0) 1 1 Try.underlying22 hi hz0 hz1 hz2 rfl (by decide) u0 L.length _ rfl hown' ⟨gs, os + f, none⟩ (k + 1 - f) _ (((S.take (k + 1)).drop f).map (Value.int .u8)) rfl (by simp; omega) (cells_cut hS HC.out f (k + 1) (by omega)) (ints_oneCell _ _) (by unfold maxLen; omega) (by omega) (by omega) ?_; intro v1 w1 hown1 hgrow1 _)
          | (at_builtin; refine wpList_append_own _ rfl (.tmp 24) (.tmp 25) 22 rfl B 5 i0 (.int .u8 0) 1 1 Try.underlying22 hi hz0 hz1 hz2 rfl (by decide) v1 _ _ rfl (hown1.alloc _) ⟨w1.heap.size, 0, none⟩ 1 1 [.int .u8 255] rfl rfl (one_cell _ _ _) (ints_oneCell _ [255]) (by unfold maxLen; omega) (by omega) (by have := hgrow1.size; simp; omega) ?_; intro v2 w2 hown2 hgrow2 _))
        obtain ⟨L', hL', hown3⟩ := own_hit hL.out hfk (by omega) Hu.out hfree.out hown2
        have bel := below_two hnx hB hgrow1 (fun q hq => (hown'.lt q hq).1) hgrow2 (fun q hq => (hown1.lt q hq).1)
        go_roundw
        case rel => exact ⟨k + 1, k + 1, L', Nat.le_refl _, by omega, by go_num, by go_num, hL', hown3, bel, fun j h1 h2 => by omega⟩
        case measure => simp [intOf]; omega
      · clear hcr
        go_wp2
        go_roundw
        case rel => exact ⟨k + 1, f, L, by omega, by omega, by go_num, rfl, hL, hown', hnx, fun j h1 h2 => by
          by_cases hj : j = k
          · subst hj; rw [Hu.out]; exact hu0
          · exact hfree.out j h1 (by omega)⟩
        case measure => simp [intOf]; omega
    · obtain rfl : k = ns := by omega
      have HC : Hid (∀ t, t < k → wr.cell? ⟨gs, os + t, none⟩ = some (.int .u8 (S.getD t 0))) := hcr
      clear hcr
      have hSt : (S.take k).drop f = S.drop f := by rw [List.take_of_length_le (by omega)]
      have hcc : ∀ ad : Addr, (¬ cs = f → ad = ⟨gs, os + f, none⟩) → ∀ t u, ((S.drop f).map (Value.int .u8))[t]? = some u → wr.cell? (ad.add t) = some u := by
        intro ad had t u hu
        have ht := (List.getElem?_eq_some_iff.1 hu).1
        simp at ht
        rw [had (by omega)]
        exact cells_cut hS HC.out f k (Nat.le_refl _) t u (by rw [hSt]; exact hu)
      have HCC := hcc
      clear hcc
      by_cases hcf : cs = f
      · subst hcf
        go_wp2_with (first
          | (at_builtin; refine wpList_append_own _ rfl (.tmp 29) (.tmp 32) 22 rfl B 5 i0 (.int .u8 0) 1 1 Try.underlying22 hi hz0 hz1 hz2 rfl (by decide) u0 L.length _ rfl hown' _ 0 _ ((S.drop cs).map (Value.int .u8)) rfl (by simp; omega) (HCC _ (fun h => absurd rfl h)) (ints_oneCell _ _) (by unfold maxLen; omega) (by omega) (by omega) ?_; intro v1 w1 hown1 hgrow1 _)
          | (at_builtin; refine wpList_append_own _ rfl (.tmp 33) (.tmp 34) 22 rfl B 5 i0 (.int .u8 0) 1 1 Try.underlying22 hi hz0 hz1 hz2 rfl (by decide) v1 _ _ rfl (hown1.alloc _) ⟨w1.heap.size, 0, none⟩ 1 1 [.int .u8 0] rfl rfl (one_cell _ _ _) (ints_oneCell _ [0]) (by unfold maxLen; omega) (by omega) (by have := hgrow1.size; simp; omega) ?_; intro v2 w2 hown2 hgrow2 _))
        obtain ⟨L', hL', hown3⟩ := own_end hL.out (fun j h1 h2 => hfree.out j h1 (by omega)) hown2
        have bel := below_two hnx hB hgrow1 (fun q hq => (hown'.lt q hq).1) hgrow2 (fun q hq => (hown1.lt q hq).1)
        go_ret
        exact ⟨v2, rfl, L', hL', hown3, bel⟩
      · go_wp2_with (first
          | (at_builtin; refine wpList_append_own _ rfl (.tmp 29) (.tmp 32) 22 rfl B 5 i0 (.int .u8 0) 1 1 Try.underlying22 hi hz0 hz1 hz2 rfl (by decide) u0 L.length _ rfl hown' ⟨gs, os + f, none⟩ (k - f) _ ((S.drop f).map (Value.int .u8)) rfl (by simp; omega) (HCC _ (fun h => rfl)) (ints_oneCell _ _) (by unfold maxLen; omega) (by omega) (by omega) ?_; intro v1 w1 hown1 hgrow1 _)
          | (at_builtin; refine wpList_append_own _ rfl (.tmp 33) (.tmp 34) 22 rfl B 5 i0 (.int .u8 0) 1 1 Try.underlying22 hi hz0 hz1 hz2 rfl (by decide) v1 _ _ rfl (hown1.alloc _) ⟨w1.heap.size, 0, none⟩ 1 1 [.int .u8 0] rfl rfl (one_cell _ _ _) (ints_oneCell _ [0]) (by unfold maxLen; omega) (by omega) (by have := hgrow1.size; simp; omega) ?_; intro v2 w2 hown2 hgrow2 _))
        obtain ⟨L', hL', hown3⟩ := own_end hL.out (fun j h1 h2 => hfree.out j h1 (by omega)) hown2
        have bel := below_two hnx hB hgrow1 (fun q hq => (hown'.lt q hq).1) hgrow2 (fun q hq => (hown1.lt q hq).1)
        go_ret
        exact ⟨v2, rfl, L', hL', hown3, bel⟩

set_option maxHeartbeats 400000 in
theorem esc_nil (B : Nat) (v : Value) (pre : List Int) (w : World) (hB : B ≤ w.heap.size) (hpre : pre.length ≤ 16)
    (hown : w.ownsRow B 5 1 v pre.length (pre.map (Value.int .u8))) :
    Calls Try.prog 7 #[v, .slice none 0 0] w fun e w' => ∃ v', e = .returned v' ∧ ∃ L, Hid (L = pre ++ (esc [] ++ [0])) ∧ w'.ownsRow B 5 1 v' L.length (L.map (Value.int .u8)) ∧ Below B w w' := by
  obtain ⟨i0, hi, hz0, hz1, hz2⟩ := info_parts info5
  go_enter Try.func7, Try.ntmps7
  go_wp2
  go_loopw [0, 5, 6] (fun vb vf vi wr => vb = v ∧ vf = .int .i64 0 ∧ vi = .int .i64 0 ∧ wr = w) (fun _ _ _ _ => 0)
  case atStart => exact ⟨rfl, rfl, rfl, rfl⟩
  case round =>
    obtain ⟨rfl, rfl, rfl, rfl⟩ := hrel
    go_wp2_with (first
      | (at_builtin; refine wpList_append_own_none rfl (.tmp 29) (.tmp 32) 22 rfl B 5 i0 1 Try.underlying22 hi _ pre.length _ rfl hown rfl ?_)
      | (at_builtin; refine wpList_append_own _ rfl (.tmp 33) (.tmp 34) 22 rfl B 5 i0 (.int .u8 0) 1 1 Try.underlying22 hi hz0 hz1 hz2 rfl (by decide) _ _ _ rfl (hown.alloc _) ⟨wr.heap.size, 0, none⟩ 1 1 [.int .u8 0] rfl rfl (one_cell _ _ _) (ints_oneCell _ [0]) (by unfold maxLen; omega) (by omega) (by simp; omega) ?_; intro v2 w2 hown2 hgrow2 _))
    go_ret
    exact ⟨v2, rfl, pre ++ [0], rfl, by simpa using hown2, ((Below.refl _ _).alloc hB _).grown hgrow2 (by simp; omega) (fun q hq => (hown.lt q hq).1)⟩

end Go.Proofs.Qxb6616517a
