/-
  THE WALKS of zzFind (8), position (11), ZZPosition (9).
-/
import Derived.Test.Qxb6617830aSees
namespace Go.Proofs.Qxb6617830a
open Go.RowKit Go.Maps
open Plain

theorem ret_int {k : IntKind} {a b : Int} (h : a = b) : Ending.returned (.int k a) = .returned (.int k b) := by rw [h]

set_option maxHeartbeats 400000 in
theorem find_any (a : Option Addr) (n c : Nat) (id : Int) (zs : List Int) (w : World) (hr : Row w a n zs) (hn : n ≤ 32768) :
    Calls Try.prog 8 #[.slice a n c, .int .i64 id] w fun e w' => e = .returned (.int .i64 (find zs id 0)) ∧ w = w' := by
  have HR := hide hr
  clear hr
  go_enter Try.func8, Try.ntmps8
  go_wp2
  go_loop [5] (fun vi => ∃ k : Nat, k ≤ n ∧ vi = .int .i64 k ∧ Hid (find zs id 0 = find (zs.drop k) id k)) (fun vi => n - (intOf vi).toNat)
  case atStart => exact ⟨0, Nat.zero_le _, rfl, rfl⟩
  case round =>
    obtain ⟨k, hk, rfl, hf⟩ := hrel
    have hlen := (unhide HR).1
    by_cases hlt : k < n
    · obtain ⟨b, off, rfl, _, hc⟩ := (unhide HR).2.2 (by omega)
      have g := hc k hlt
      obtain ⟨z, hz⟩ : ∃ z, zs.getD k 0 = z := ⟨_, rfl⟩
      rw [hz] at g
      have HZ := hide hz
      have HL := hide hlen
      clear hc hz hlen
      have hi : (k : Int) < (n : Int) := by omega
      by_cases hzi : z = id
      · have t : (z == id) = true := by simpa using hzi
        have HZI := hide hzi
        clear hzi
        go_wp2
        go_ret
        exact ⟨ret_int (by rw [unhide hf, find_here zs id k (by rw [unhide HL]; exact hlt) (by rw [unhide HZ]; exact unhide HZI)]), rfl⟩
      · have t : (z == id) = false := by simpa using hzi
        have HZI := hide hzi
        clear hzi
        go_wp2
        go_round
        case rel => exact ⟨k + 1, by omega, by go_num, (unhide hf).trans (find_step zs id k (by rw [unhide HL]; exact hlt) (by rw [unhide HZ]; exact unhide HZI))⟩
        case measure => simp [intOf]; omega
    · have HL := hide hlen
      clear hlen
      go_wp2
      go_ret
      exact ⟨ret_int (by rw [unhide hf, find_end zs id k (by rw [unhide HL]; omega)]), rfl⟩

theorem ret_pos {a a' : Int} {b b' : Bool} (h1 : a = a') (h2 : b = b') : Ending.returned (.tuple #[.int .i64 a, .bool b]) = .returned (.tuple #[.int .i64 a', .bool b']) := by rw [h1, h2]

set_option maxHeartbeats 400000 in
theorem pos_any (g : Nat) (pa : Option Addr) (np pc nf : Nat) (r : Option Nat) (id : Int) (ps : List Int) (look : Int → Option Int) (w : World) (hp : Row w pa np ps) (hm : Mp w r nf look) (hn : np ≤ 32768) (hid : (Lit.int .i64 id).wf = true)
    (h1 : w.cell? ⟨g, 1, none⟩ = some (.slice pa np pc)) (h2 : w.cell? ⟨g, 2, none⟩ = some (.map r)) :
    Calls Try.prog 11 #[.pointer (some ⟨g, 0, none⟩), .int .i64 id] w fun e w' => e = .returned (.tuple #[.int .i64 (posn ps look id).1, .bool (posn ps look id).2]) ∧ w = w' := by
  have hlen := hp.1
  have hlook := hm.1 w (Below.refl _ _) id hid
  obtain ⟨c, hc⟩ : ∃ c, (look id).getD 0 = c := ⟨_, rfl⟩
  obtain ⟨b, hb⟩ : ∃ b, (look id).isSome = b := ⟨_, rfl⟩
  rw [hc, hb] at hlook
  by_cases hr : inR ps.length id = true
  · have hbd : 0 ≤ id ∧ id < (np : Int) := by rw [← hlen]; simpa [inR] using hr
    obtain ⟨q, rfl⟩ : ∃ q : Nat, id = (q : Int) := ⟨id.toNat, by omega⟩
    have hq : q < np := by omega
    obtain ⟨ob, oo, rfl, _, hcs⟩ := hp.2.2 (by omega)
    have gq := hcs q hq
    obtain ⟨z, hz⟩ : ∃ z, ps.getD q 0 = z := ⟨_, rfl⟩
    rw [hz] at gq
    have hi : (q : Int) < (np : Int) := by omega
    by_cases hz0 : 0 ≤ z
    · have e : posn ps look (q : Int) = (z, true) := by
        unfold posn
        rw [if_pos hr, Int.toNat_natCast, hz, if_pos hz0]
      rw [e]
      clear e hr hp hm hlook hc hb hcs hz hbd hlen
      go_enter Try.func11, Try.ntmps11
      go_wp2
      go_ret2
      exact ⟨rfl, rfl⟩
    · have e : posn ps look (q : Int) = (0, false) := by
        unfold posn
        rw [if_pos hr, Int.toNat_natCast, hz, if_neg hz0]
      rw [e]
      clear e hr hp hm hlook hc hb hcs hz hbd hlen
      go_enter Try.func11, Try.ntmps11
      go_wp2
      go_ret2
      exact ⟨rfl, rfl⟩
  · have e : posn ps look id = (c, b) := by
      unfold posn
      rw [if_neg hr, hc, hb]
    rw [e]
    have hbd : ¬ (0 ≤ id ∧ id < (np : Int)) := by rw [← hlen]; simpa [inR] using hr
    clear e hr hp hm hc hb hlen
    by_cases hi0 : 0 ≤ id
    · have hi1 : (np : Int) ≤ id := by omega
      clear hbd
      go_enter Try.func11, Try.ntmps11
      go_wp2
      go_ret2
      exact ⟨rfl, rfl⟩
    · have hi0' : id < 0 := by omega
      clear hbd hi0
      go_enter Try.func11, Try.ntmps11
      go_wp2
      go_ret2
      exact ⟨rfl, rfl⟩

end Go.Proofs.Qxb6617830a
