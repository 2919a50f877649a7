/-
  THE WALKS of zzBytes_.. (4) and zzCompareBytes (5).
-/
import Derived.Test.Qxb6616517aRows
import Derived.Test.Qxb6616517aPlain
import Derived.WalkKit
import Derived.WalkSpells
import Derived.Deep.QuietTactic
import Derived.BigQuiet
namespace Go.Proofs.Qxb6616517a
open Go.RowKit
open Plain

set_option maxHeartbeats 400000 in
theorem small_any (a0 : Option Addr) (n0 c0 : Nat) (a1 : Option Addr) (n1 c1 : Nat) (w : World) (h0 : n0 ≤ maxLen) (h1 : n1 ≤ maxLen) :
    Calls Try.prog 4 #[.slice a0 n0 c0, .slice a1 n1 c1] w fun e w' => (∃ b, e = .returned (.bool b)) ∧ w = w' := by
  unfold maxLen at h0 h1
  by_cases k0 : n0 ≤ 1048576
  · by_cases k1 : n1 ≤ 1048576
    · by_cases k2 : n0 + n1 ≤ 1048576
      · go_enter Try.func4, Try.ntmps4
        go_wp2
        go_ret
        exact ⟨⟨_, rfl⟩, rfl⟩
      · go_enter Try.func4, Try.ntmps4
        go_wp2
        go_ret
        exact ⟨⟨_, rfl⟩, rfl⟩
    · go_enter Try.func4, Try.ntmps4
      go_wp2
      go_ret
      exact ⟨⟨_, rfl⟩, rfl⟩
  · go_enter Try.func4, Try.ntmps4
    go_wp2
    go_ret
    exact ⟨⟨_, rfl⟩, rfl⟩

theorem ret_int {k : IntKind} {a b : Int} (h : a = b) : Ending.returned (.int k a) = .returned (.int k b) := by rw [h]

theorem drew1 (w : World) (q n : Nat) : ∃ p, (w.drewN q).drewN n = w.drewN p := ⟨q + n, by simp⟩
theorem drew2 (w : World) (q n m : Nat) : ∃ p, ((w.drewN q).drewN n).drewN m = w.drewN p := ⟨q + n + m, by simp⟩

set_option maxHeartbeats 400000 in
theorem cmp_some (b0 o0 n0 c0 b1 o1 n1 c1 : Nat) (x y : List Int) (w : World) (hx : x.length = n0) (hy : y.length = n1) (m0 : n0 ≤ maxLen) (m1 : n1 ≤ maxLen)
    (h0 : ∀ j, j < n0 → w.cell? ⟨b0, o0 + j, none⟩ = some (.int .u8 (x.getD j 0))) (h1 : ∀ j, j < n1 → w.cell? ⟨b1, o1 + j, none⟩ = some (.int .u8 (y.getD j 0))) :
    Calls Try.prog 5 #[.slice (some ⟨b0, o0, none⟩) n0 c0, .slice (some ⟨b1, o1, none⟩) n1 c1] w fun e w' => e = .returned (.int .i64 (cmp x y)) ∧ ∃ q, w' = w.drewN q := by
  unfold maxLen at m0 m1
  by_cases hlt : n1 < n0
  · go_enter Try.func5, Try.ntmps5
    go_wp2
    go_loopw [6] (fun i wr => ∃ k q : Nat, k ≤ n1 ∧ i = .int .i64 k ∧ wr = w.drewN q ∧ Hid (cmp x y = cmp (x.drop k) (y.drop k))) (fun i _ => n1 - (intOf i).toNat)
    case atStart => exact ⟨0, 0, Nat.zero_le _, rfl, rfl, rfl⟩
    case round =>
      obtain ⟨k, q, hk, rfl, rfl, hc⟩ := hrel
      by_cases hkn : k < n1
      · have g0 := h0 k (by omega)
        have g1 := h1 k (by omega)
        have i0 : (k : Int) < (n0 : Int) := by omega
        have i1 : (k : Int) < (n1 : Int) := by omega
        obtain ⟨u, hu⟩ : ∃ u, x.getD k 0 = u := ⟨_, rfl⟩
        obtain ⟨v, hv⟩ : ∃ v, y.getD k 0 = v := ⟨_, rfl⟩
        rw [hu] at g0
        rw [hv] at g1
        have Hu : Hid (x.getD k 0 = u) := hu
        have Hv : Hid (y.getD k 0 = v) := hv
        clear h0 h1 hu hv
        by_cases huv : u < v
        · go_wp2
          go_quiet (fail)
          go_wp2
          go_ret
          refine ⟨ret_int ?_, drew1 _ _ _⟩
          rw [hc.out]; exact (cmp_lt x y k (by omega) (by omega) (by rw [Hu.out, Hv.out]; exact huv)).symm
        · by_cases hvu : v < u
          · go_wp2
            go_quiet (fail)
            go_wp2
            go_quiet (fail)
            go_wp2
            go_ret
            refine ⟨ret_int ?_, drew2 _ _ _ _⟩
            rw [hc.out]; exact (cmp_gt x y k (by omega) (by omega) (by rw [Hu.out, Hv.out]; exact hvu)).symm
          · go_wp2
            go_quiet (fail)
            go_wp2
            go_quiet (fail)
            go_wp2
            go_roundw
            case rel => exact ⟨k + 1, _, by omega, by go_num, rfl, hc.out.trans (cmp_step x y k (by omega) (by omega) (by rw [Hu.out, Hv.out]; omega) (by rw [Hu.out, Hv.out]; omega))⟩
            case measure => simp [intOf]; omega
      · clear h0 h1
        have hkm : n1 ≤ k := by omega
        go_wp2
        go_ret
        exact ⟨ret_int (by rw [hc.out]; exact (cmp_end_gt x y k (by omega) (by omega)).symm), _, rfl⟩
  · go_enter Try.func5, Try.ntmps5
    go_wp2
    go_loopw [6] (fun i wr => ∃ k q : Nat, k ≤ n0 ∧ i = .int .i64 k ∧ wr = w.drewN q ∧ Hid (cmp x y = cmp (x.drop k) (y.drop k))) (fun i _ => n0 - (intOf i).toNat)
    case atStart => exact ⟨0, 0, Nat.zero_le _, rfl, rfl, rfl⟩
    case round =>
      obtain ⟨k, q, hk, rfl, rfl, hc⟩ := hrel
      by_cases hkn : k < n0
      · have g0 := h0 k (by omega)
        have g1 := h1 k (by omega)
        have i0 : (k : Int) < (n0 : Int) := by omega
        have i1 : (k : Int) < (n1 : Int) := by omega
        obtain ⟨u, hu⟩ : ∃ u, x.getD k 0 = u := ⟨_, rfl⟩
        obtain ⟨v, hv⟩ : ∃ v, y.getD k 0 = v := ⟨_, rfl⟩
        rw [hu] at g0
        rw [hv] at g1
        have Hu : Hid (x.getD k 0 = u) := hu
        have Hv : Hid (y.getD k 0 = v) := hv
        clear h0 h1 hu hv
        by_cases huv : u < v
        · go_wp2
          go_quiet (fail)
          go_wp2
          go_ret
          refine ⟨ret_int ?_, drew1 _ _ _⟩
          rw [hc.out]; exact (cmp_lt x y k (by omega) (by omega) (by rw [Hu.out, Hv.out]; exact huv)).symm
        · by_cases hvu : v < u
          · go_wp2
            go_quiet (fail)
            go_wp2
            go_quiet (fail)
            go_wp2
            go_ret
            refine ⟨ret_int ?_, drew2 _ _ _ _⟩
            rw [hc.out]; exact (cmp_gt x y k (by omega) (by omega) (by rw [Hu.out, Hv.out]; exact hvu)).symm
          · go_wp2
            go_quiet (fail)
            go_wp2
            go_quiet (fail)
            go_wp2
            go_roundw
            case rel => exact ⟨k + 1, _, by omega, by go_num, rfl, hc.out.trans (cmp_step x y k (by omega) (by omega) (by rw [Hu.out, Hv.out]; omega) (by rw [Hu.out, Hv.out]; omega))⟩
            case measure => simp [intOf]; omega
      · clear h0 h1
        have hkm : n0 ≤ k := by omega
        by_cases hlt2 : n0 < n1
        · go_wp2
          go_ret
          exact ⟨ret_int (by rw [hc.out]; exact (cmp_end_lt x y k (by omega) (by omega)).symm), _, rfl⟩
        · go_wp2
          go_ret
          exact ⟨ret_int (by rw [hc.out]; exact (cmp_end_eq x y k (by omega) (by omega)).symm), _, rfl⟩

end Go.Proofs.Qxb6616517a
