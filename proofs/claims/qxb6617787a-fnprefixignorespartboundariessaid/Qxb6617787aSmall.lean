/-
  THE WALKS of zzBytes_.. (4), zzTextPartsTooBig (5).
-/
import Derived.Test.Qxb6617787aParts
namespace Go.Proofs.Qxb6617787a
open Go.RowKit

/-- The value part r holds, and its length's bounds. -/
theorem part_len {w : World} {pa : Option Addr} {pn pc : Nat} {S : List UInt8} (h : Part w (.slice pa pn pc) S) : pn ≤ maxLen := by
  obtain ⟨_, _, hv, h1, h2, _⟩ := h
  simp only [Value.slice.injEq] at hv
  omega

theorem parts_len {w : World} {oa : Option Addr} {np oc : Nat} {PS : List (List UInt8)} (h : Parts w (.slice oa np oc) PS) : np = PS.length ∧ np ≤ maxLen := by
  obtain ⟨_, _, _, hv, h1, h2, _⟩ := h
  simp only [Value.slice.injEq] at hv
  omega

/-- The bytes of the first k parts. -/
def sm (PS : List (List UInt8)) (k : Nat) : Nat := (PS.take k).flatten.length
theorem sm_zero (PS : List (List UInt8)) : sm PS 0 = 0 := by simp [sm]
theorem sm_succ (PS : List (List UInt8)) (k : Nat) (h : k < PS.length) : sm PS (k + 1) = sm PS k + (PS.getD k []).length := by
  unfold sm
  rw [List.take_succ_eq_append_getElem h, List.flatten_append, List.length_append]
  have e : PS.getD k [] = PS[k] := by simp [List.getD, h]
  rw [e]
  simp
theorem sm_end (PS : List (List UInt8)) : sm PS PS.length = PS.flatten.length := by simp [sm]
theorem sm_le (PS : List (List UInt8)) : ∀ k, sm PS k ≤ PS.flatten.length := by
  intro k
  unfold sm
  conv => rhs; rw [← List.take_append_drop k PS, List.flatten_append, List.length_append]
  omega
theorem part_le (PS : List (List UInt8)) (k : Nat) (h : k < PS.length) : (PS.getD k []).length ≤ PS.flatten.length := by
  have := sm_succ PS k h
  have := sm_le PS (k + 1)
  omega

/-- The ending is a bool, and 'true' says P. -/
def Tells (e : Ending) (b0 : Bool) (P : Prop) : Prop := ∃ b, e = .returned (.bool b) ∧ (b = b0 → P)
theorem Tells.mk {b b0 : Bool} {P : Prop} (h : b = b0 → P) : Tells (.returned (.bool b)) b0 P := ⟨b, rfl, h⟩

set_option maxHeartbeats 400000 in
theorem bytes_any (oa : Option Addr) (np oc T : Nat) (x1 x2 x3 x4 x5 : Int) (PS : List (List UInt8)) (w : World) (hP : Parts w (.slice oa np oc) PS) (hT : PS.flatten.length = T) :
    Calls Try.prog 4 #[.slice oa np oc, .int .i64 x1, .int .i64 x2, .int .i64 x3, .int .i64 x4, .int .i64 x5] w fun e w' => Tells e true (np + T ≤ 1048576) ∧ w = w' := by
  have hm := (parts_len hP).2
  have hnp := (parts_len hP).1
  unfold maxLen at hm
  have HP := hide hP
  have HNP := hide hnp
  have HT := hide hT
  clear hP hnp hT
  by_cases k0 : np ≤ 1048576
  · go_enter Try.func4, Try.ntmps4
    go_wp2
    go_loop [13, 14] (fun vz vi => ∃ (k z : Nat), k ≤ np ∧ vi = .int .i64 k ∧ vz = .int .i64 z ∧ z ≤ 1048576 ∧ Hid (z = np + sm PS k)) (fun _ vi => np - (intOf vi).toNat)
    case atStart => exact ⟨0, np, Nat.zero_le _, rfl, rfl, k0, by show np = np + sm PS 0; rw [sm_zero]; rfl⟩
    case round =>
      obtain ⟨k, z, hk, rfl, rfl, hz1, hz⟩ := hrel
      by_cases hlt : k < np
      · obtain ⟨ob, oo, pa, pn, pc, rfl, g, hpn, hpart⟩ := (unhide HP).at k hlt
        have hpm := part_len hpart
        unfold maxLen at hpm
        have HPN := hide hpn
        clear hpn hpart
        have hi : (k : Int) < (np : Int) := by omega
        by_cases k1 : pn ≤ 1048576
        · by_cases k2 : z + pn ≤ 1048576
          · go_wp2
            go_round
            case rel => exact ⟨k + 1, z + pn, by omega, by go_num, by go_num, by omega, by show z + pn = np + sm PS (k + 1); rw [sm_succ PS k (by rw [← unhide HNP]; omega), unhide hz, ← unhide HPN]; omega⟩
            case measure => simp [intOf]; omega
          · go_wp2
            go_ret
            exact ⟨Tells.mk (fun h => by cases h), rfl⟩
        · go_wp2
          go_ret
          exact ⟨Tells.mk (fun h => by cases h), rfl⟩
      · obtain rfl : k = np := by omega
        go_wp2
        go_ret
        exact ⟨Tells.mk (fun _ => by
          have h := unhide hz
          have h2 := unhide HNP
          have h3 := sm_end PS
          have h4 := unhide HT
          rw [← h2] at h3
          omega), rfl⟩
  · go_enter Try.func4, Try.ntmps4
    go_wp2
    go_ret
    exact ⟨Tells.mk (fun h => by cases h), rfl⟩

set_option maxHeartbeats 400000 in
theorem big_any (oa : Option Addr) (np oc : Nat) (PS : List (List UInt8)) (w : World) (hP : Parts w (.slice oa np oc) PS) (hsum : np + PS.flatten.length ≤ 1048576) :
    Calls Try.prog 5 #[.slice oa np oc] w fun e w' => Tells e false True ∧ w = w' := by
  have hnp := (parts_len hP).1
  have HP := hide hP
  have HNP := hide hnp
  have hnp1 : np ≤ 1048576 := by omega
  have HS := hide hsum
  clear hP hnp hsum
  go_enter Try.func5, Try.ntmps5
  go_wp2
  go_loop [3, 4] (fun vz vi => ∃ (k z : Nat), k ≤ np ∧ vi = .int .i64 k ∧ vz = .int .i64 z ∧ z ≤ 1048576) (fun _ vi => np - (intOf vi).toNat)
  case atStart => exact ⟨0, 0, Nat.zero_le _, rfl, rfl, by omega⟩
  case round =>
    obtain ⟨k, z, hk, rfl, rfl, hz1⟩ := hrel
    by_cases hlt : k < np
    · obtain ⟨ob, oo, pa, pn, pc, rfl, g, hpn, hpart⟩ := (unhide HP).at k hlt
      have hpm : pn ≤ 1048576 := by
        have h1 := part_le PS k (by rw [← unhide HNP]; exact hlt)
        have h2 := unhide HS
        omega
      clear hpn hpart
      have hi : (k : Int) < (np : Int) := by omega
      by_cases k2 : z + (24 + pn) ≤ 1048576
      · go_wp2
        go_round
        case rel => exact ⟨k + 1, z + (24 + pn), by omega, by go_num, by go_num, by omega⟩
        case measure => simp [intOf]; omega
      · go_wp2
        go_ret
        exact ⟨Tells.mk (fun _ => trivial), rfl⟩
    · go_wp2
      go_ret
      exact ⟨Tells.mk (fun _ => trivial), rfl⟩

end Go.Proofs.Qxb6617787a
