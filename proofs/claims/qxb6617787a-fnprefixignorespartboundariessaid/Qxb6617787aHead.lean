/-
  THE WALK of zzTextIsHead (9): the string IS the head of the join.
-/
import Derived.Test.Qxb6617787aJoin
namespace Go.Proofs.Qxb6617787a
open Go.RowKit

theorem head_size (J : List UInt8) (n : Nat) : (⟨(J.take n).toArray⟩ : ByteArray).size = min n J.length := by
  show (J.take n).toArray.size = _
  simp

theorem head_byte (J : List UInt8) (n j : Nat) (s : ByteArray) (hs : s = ⟨(J.take n).toArray⟩) (h : j < s.size) : (s[j]).toNat = (J.getD j 0).toNat := by
  subst hs
  have h' : j < (J.take n).length := by
    have := h
    rw [head_size] at this
    simp; omega
  show ((J.take n).toArray[j]).toNat = _
  simp at h'
  have h2 : j < J.length := by omega
  simp [List.getD, h2]

set_option maxHeartbeats 1000000 in
theorem head_any (g T n : Nat) (J : List UInt8) (s : ByteArray) (w : World) (hs : s = ⟨(J.take n).toArray⟩) (hown : Part w (.slice (some ⟨g, 0, none⟩) T T) J) (hT : J.length = T) (hm : T ≤ 1048576) :
    Calls Try.prog 9 #[.string s, .slice (some ⟨g, 0, none⟩) T T, .int .i64 ((min n T : Nat) : Int)] w fun e w' => e = .returned (.bool true) ∧ ∃ q, w' = w.drewN q := by
  obtain ⟨k, hk⟩ : ∃ k, min n T = k := ⟨_, rfl⟩
  rw [hk]
  have hsz : s.size = k := by rw [hs, head_size, hT, hk]
  have hkT : k ≤ T := by omega
  have HB : Hid (∀ j, (h : j < s.size) → (s[j]).toNat = (J.getD j 0).toNat) := fun j h => head_byte J n j s hs h
  have HC : Hid (∀ j, j < T → w.cell? ⟨g, j, none⟩ = some (.int .u8 (J.getD j 0).toNat)) := fun j hj => by
    obtain ⟨b, off, hb, _, hc⟩ := hown.cells (by omega)
    cases hb
    have := hc j hj
    rwa [Nat.zero_add] at this
  have HZ := hide hsz
  clear hs hown hT hk hsz
  have e1 : ((s.size : Int) != (k : Int)) = false := by rw [unhide HZ]; simp
  go_enter Try.func9, Try.ntmps9
  go_wp2
  go_loopw [7] (fun vi wr => ∃ j q : Nat, j ≤ k ∧ vi = .int .i64 j ∧ wr = w.drewN q) (fun vi _ => k - (intOf vi).toNat)
  case atStart => exact ⟨0, 0, Nat.zero_le _, rfl, rfl⟩
  case round =>
    obtain ⟨j, q, hj, rfl, rfl⟩ := hrel
    by_cases hlt : j < k
    · have hjs : j < s.size := by rw [unhide HZ]; exact hlt
      have g := unhide HC j (by omega)
      have hbj := unhide HB j hjs
      obtain ⟨u, hu⟩ : ∃ u : Nat, (J.getD j 0).toNat = u := ⟨_, rfl⟩
      rw [hu] at g hbj
      have e2 : (((s[j]'hjs).toNat : Int) != (u : Int)) = false := by rw [hbj]; simp
      have hi1 : (j : Int) < (k : Int) := by omega
      have hi2 : (j : Int) < (T : Int) := by omega
      have hi3 : (j : Int) < (s.size : Int) := by omega
      clear hbj hu
      go_wp2
      go_quiet (fail)
      go_wp2
      go_roundw
      case rel => exact ⟨j + 1, _, by omega, by go_num, rfl⟩
      case measure => simp [intOf]; omega
    · go_wp2
      go_ret
      exact ⟨rfl, _, rfl⟩

end Go.Proofs.Qxb6617787a
