/-
  THE WALKS of zzb1UvLen (7) and zzb1VarLen (8).
-/
import Derived.Test.Qxb6616933aRoom
namespace Go.Proofs.Qxb6616933a
open Go.RowKit
open Plain

set_option maxHeartbeats 400000 in
theorem uvlen (n : Nat) (w : World) (hn : n ≤ 1048576) :
    Calls Try.prog 7 #[.int .i64 (n : Int)] w fun e w' => e = .returned (.int .i64 (ul n)) ∧ w = w' := by
  have e := ul_len (n : Int) (by omega)
  by_cases h1 : (n : Int) < 128
  · rw [if_pos h1] at e
    rw [e]
    clear e
    go_enter Try.func7, Try.ntmps7
    go_wp2
    go_ret
    exact ⟨rfl, rfl⟩
  · rw [if_neg h1] at e
    by_cases h2 : (n : Int) < 16384
    · rw [if_pos h2] at e
      rw [e]
      clear e
      go_enter Try.func7, Try.ntmps7
      go_wp2
      go_ret
      exact ⟨rfl, rfl⟩
    · rw [if_neg h2] at e
      rw [e]
      clear e
      go_enter Try.func7, Try.ntmps7
      go_wp2
      go_ret
      exact ⟨rfl, rfl⟩

set_option maxHeartbeats 1000000 in
theorem varlen (d : Int) (w : World) :
    Calls Try.prog 8 #[.int .i64 d] w fun e w' => e = .returned (.int .i64 (ul (zig d))) ∧ w = w' := by
  have hu := ul_bd (zig d)
  obtain ⟨v, hv⟩ : ∃ v, ul (zig d) = v := ⟨_, rfl⟩
  have hf : Hid (∀ m : Nat, 1 ≤ m → m ≤ 9 → (fits m d = true ↔ v ≤ m)) := fun m h1 h9 => by rw [← hv]; exact fits_ul m h1 h9 d
  rw [hv] at hu ⊢
  clear hv
  go_enter Try.func8, Try.ntmps8
  go_wp2
  go_loop [3] (fun vm => ∃ k : Nat, 1 ≤ k ∧ k ≤ 10 ∧ (k : Int) ≤ v ∧ vm = .int .i64 k) (fun vm => 10 - (intOf vm).toNat)
  case atStart => exact ⟨1, by omega, by omega, by omega, rfl⟩
  case round =>
    obtain ⟨k, hk1, hk10, hkv, rfl⟩ := hrel
    have hc : k = 1 ∨ k = 2 ∨ k = 3 ∨ k = 4 ∨ k = 5 ∨ k = 6 ∨ k = 7 ∨ k = 8 ∨ k = 9 ∨ k = 10 := by omega
    rcases hc with rfl | rfl | rfl | rfl | rfl | rfl | rfl | rfl | rfl | rfl
    · go_wp2
      all_goals have hF : (-64 ≤ d ∧ d < 64) ↔ v ≤ 1 := by simpa [fits] using hf.out 1 (by omega) (by omega)
      · go_ret
        exact ⟨ret_int (by omega), rfl⟩
      all_goals
        go_round
        case rel => exact ⟨2, by omega, by omega, by omega, rfl⟩
        case measure => simp [intOf]
    · go_wp2
      all_goals have hF : (-8192 ≤ d ∧ d < 8192) ↔ v ≤ 2 := by simpa [fits] using hf.out 2 (by omega) (by omega)
      · go_ret
        exact ⟨ret_int (by omega), rfl⟩
      all_goals
        go_round
        case rel => exact ⟨3, by omega, by omega, by omega, rfl⟩
        case measure => simp [intOf]
    · go_wp2
      all_goals have hF : (-1048576 ≤ d ∧ d < 1048576) ↔ v ≤ 3 := by simpa [fits] using hf.out 3 (by omega) (by omega)
      · go_ret
        exact ⟨ret_int (by omega), rfl⟩
      all_goals
        go_round
        case rel => exact ⟨4, by omega, by omega, by omega, rfl⟩
        case measure => simp [intOf]
    · go_wp2
      all_goals have hF : (-134217728 ≤ d ∧ d < 134217728) ↔ v ≤ 4 := by simpa [fits] using hf.out 4 (by omega) (by omega)
      · go_ret
        exact ⟨ret_int (by omega), rfl⟩
      all_goals
        go_round
        case rel => exact ⟨5, by omega, by omega, by omega, rfl⟩
        case measure => simp [intOf]
    · go_wp2
      all_goals have hF : (-17179869184 ≤ d ∧ d < 17179869184) ↔ v ≤ 5 := by simpa [fits] using hf.out 5 (by omega) (by omega)
      · go_ret
        exact ⟨ret_int (by omega), rfl⟩
      all_goals
        go_round
        case rel => exact ⟨6, by omega, by omega, by omega, rfl⟩
        case measure => simp [intOf]
    · go_wp2
      all_goals have hF : (-2199023255552 ≤ d ∧ d < 2199023255552) ↔ v ≤ 6 := by simpa [fits] using hf.out 6 (by omega) (by omega)
      · go_ret
        exact ⟨ret_int (by omega), rfl⟩
      all_goals
        go_round
        case rel => exact ⟨7, by omega, by omega, by omega, rfl⟩
        case measure => simp [intOf]
    · go_wp2
      all_goals have hF : (-281474976710656 ≤ d ∧ d < 281474976710656) ↔ v ≤ 7 := by simpa [fits] using hf.out 7 (by omega) (by omega)
      · go_ret
        exact ⟨ret_int (by omega), rfl⟩
      all_goals
        go_round
        case rel => exact ⟨8, by omega, by omega, by omega, rfl⟩
        case measure => simp [intOf]
    · go_wp2
      all_goals have hF : (-36028797018963968 ≤ d ∧ d < 36028797018963968) ↔ v ≤ 8 := by simpa [fits] using hf.out 8 (by omega) (by omega)
      · go_ret
        exact ⟨ret_int (by omega), rfl⟩
      all_goals
        go_round
        case rel => exact ⟨9, by omega, by omega, by omega, rfl⟩
        case measure => simp [intOf]
    · go_wp2
      all_goals have hF : (-4611686018427387904 ≤ d ∧ d < 4611686018427387904) ↔ v ≤ 9 := by simpa [fits] using hf.out 9 (by omega) (by omega)
      · go_ret
        exact ⟨ret_int (by omega), rfl⟩
      all_goals
        go_round
        case rel => exact ⟨10, by omega, by omega, by omega, rfl⟩
        case measure => simp [intOf]
    · go_wp2
      go_ret
      exact ⟨ret_int (by omega), rfl⟩

end Go.Proofs.Qxb6616933a
