/-
  THE WALK of scalarText's method that hands back the first n bytes (11).
-/
import Derived.Test.Qxb6617787aWrite
namespace Go.Proofs.Qxb6617787a
open Go.RowKit

/-- What the builder holds behind k parts. -/
def held (PS : List (List UInt8)) (n k : Nat) : List UInt8 := (PS.take k).flatten.take n

theorem held_zero (PS : List (List UInt8)) (n : Nat) : held PS n 0 = [] := by simp [held]
theorem held_end (PS : List (List UInt8)) (n k : Nat) (h : PS.length ≤ k) : held PS n k = PS.flatten.take n := by simp [held, List.take_of_length_le h]
theorem held_le (PS : List (List UInt8)) (n k : Nat) : (held PS n k).length ≤ n := by simp [held]; omega
theorem held_succ (PS : List (List UInt8)) (n k : Nat) (h : k < PS.length) : held PS n (k + 1) = held PS n k ++ (PS.getD k []).take (n - (held PS n k).length) := by
  unfold held
  rw [List.take_succ_eq_append_getElem h, List.flatten_append, List.take_append]
  have e : PS.getD k [] = PS[k] := by simp [List.getD, h]
  rw [e]
  congr 1
  simp only [List.flatten_cons, List.flatten_nil, List.append_nil, List.length_take]
  by_cases hn : n ≤ (PS.take k).flatten.length
  · rw [Nat.min_eq_left hn]
    have : n - (PS.take k).flatten.length = 0 := by omega
    rw [this]; simp
  · rw [Nat.min_eq_right (by omega)]

theorem held_round {PS : List (List UInt8)} {n k t pn q np B b : Nat} {w : World} (hnp : np = PS.length) (hlt : k < np) (ht : (held PS n k).length = t) (hpn : pn = (PS.getD k []).length) (hq : min pn (n - t) = q)
    (h : Lib.IsBuilder 37 5 B b (Lib.byteCells (held PS n k) ++ Lib.byteCells ((PS.getD k []).take q)) w) : Lib.IsBuilder 37 5 B b (Lib.byteCells (held PS n (k + 1))) w := by
  have e : (PS.getD k []).take q = (PS.getD k []).take (n - (held PS n k).length) := by
    rw [ht, ← hq, hpn, ← List.take_take]
    exact List.take_of_length_le (by simp; omega)
  rw [held_succ PS n k (by omega), byteCells_append, ← e]
  exact h

set_option maxHeartbeats 1000000 in
theorem pfx (gt n : Nat) (oa : Option Addr) (np oc : Nat) (PS : List (List UInt8)) (w : World) (hc : w.cell? ⟨gt, 0, none⟩ = some (.slice oa np oc)) (hP : Parts w (.slice oa np oc) PS) (hnp : np = PS.length) (hn : n ≤ 65536) (hsm : np ≤ 2097152) :
    Calls Try.prog 11 #[.pointer (some ⟨gt, 0, none⟩), .int .i64 (n : Int)] w fun e w' => e = .returned (.string ⟨(PS.flatten.take n).toArray⟩) ∧ Below w.heap.size w w' := by
  have HP := hide hP
  have HNP := hide hnp
  clear hP hnp
  have hgt : gt < w.heap.size := World.block_lt_of_cell? _ _ hc
  go_enter Try.func11, Try.ntmps11
  go_wp2_with fail
  refine (Try.Builder_Grow_fresh w.heap.size w.heap.size n _ (Nat.le_refl _) (heap_alloc_new w _) (by simp) (by omega)).mono ?_
  rintro e w1 ⟨rfl, hB1, hb1⟩
  have b1 : Below w.heap.size w w1 := ((Below.refl _ _).alloc (Nat.le_refl _) _).trans hb1
  have c1 : w1.cell? ⟨gt, 0, none⟩ = some (.slice oa np oc) := (b1.cell (by exact hgt)).trans hc
  clear hb1
  go_wp2
  go_loopw [7, 15] (fun vp vi wr => ∃ k : Nat, k ≤ np ∧ vi = .int .i64 k ∧ Lib.IsBuilder 37 5 w.heap.size w.heap.size (Lib.byteCells (held PS n k)) wr ∧ Below w.heap.size w wr) (fun _ vi _ => np - (intOf vi).toNat)
  case atStart => exact ⟨0, Nat.zero_le _, rfl, .inr (by rw [held_zero]; exact hB1), b1⟩
  case round =>
    obtain ⟨k, hk, rfl, hB, hb⟩ := hrel
    clear c1 b1 hB1
    have hhl := held_le PS n k
    by_cases hlt : k < np
    · obtain ⟨ob, oo, pa, pn, pc, rfl, hcp, hpn, hpart⟩ := (unhide HP).at k hlt
      have hob : ob < w.heap.size := World.block_lt_of_cell? _ _ hcp
      have g : wr.cell? ⟨ob, oo + k, none⟩ = some (.slice pa pn pc) := (hb.cell (by exact hob)).trans hcp
      have hi : (k : Int) < (np : Int) := by omega
      obtain ⟨t, ht⟩ : ∃ t, (held PS n k).length = t := ⟨_, rfl⟩
      have HT := hide ht
      have hpm : pn ≤ maxLen := by obtain ⟨_, _, hv, h1, h2, _⟩ := hpart; simp only [Value.slice.injEq] at hv; omega
      have hpc : pn ≤ pc := by obtain ⟨_, _, hv, h1, h2, _⟩ := hpart; simp only [Value.slice.injEq] at hv; omega
      unfold maxLen at hpm
      rw [ht] at hhl
      have HPN := hide hpn
      have HPart := hide hpart
      clear ht hpn hpart hcp
      go_wp2_with fail
      refine (Try.Builder_Len w.heap.size w.heap.size _ _ hB).mono ?_
      rw [byteCells_length, unhide HT]
      rintro e wl ⟨rfl, hwl⟩
      obtain rfl : wr = wl := hwl.symm
      go_wp2_with fail
      have hq : (min (pn : Int) ((n : Int) - (t : Int))).toNat = min pn (n - t) := by omega
      rw [hq]
      obtain ⟨q, hqd⟩ : ∃ q, min pn (n - t) = q := ⟨_, rfl⟩
      have hqn : q ≤ pn := by omega
      rw [hqd]
      refine (write_any w.heap.size w.heap.size _ pa q pc _ w _ hB ((unhide HPart).head q hqn) rfl hb (by rw [byteCells_length, unhide HT]; omega)).mono ?_
      rintro e w2 ⟨rfl, hB2, hb2⟩
      have R := held_round (unhide HNP) hlt (unhide HT) (unhide HPN) hqd hB2
      have bb := hb.trans hb2
      clear hB hB2 hb hb2 hq hqd g
      go_wp2
      go_roundw
      case rel => exact ⟨k + 1, by omega, by go_num, R, bb⟩
      case measure => simp [intOf]; omega
    · have hB' : Lib.IsBuilder 37 5 w.heap.size w.heap.size (Lib.byteCells (PS.flatten.take n)) wr := by
        have e := held_end PS n k (by rw [← unhide HNP]; omega)
        rw [e] at hB
        exact hB
      clear hB
      go_wp2_with fail
      refine (Try.Builder_String_any w.heap.size w.heap.size _ _ hB' hb.size).mono ?_
      rintro e w2 ⟨rfl, hb2⟩
      go_wp2_with fail
      go_ret
      exact ⟨rfl, hb.trans hb2⟩

/-- 'text.ZZPrefix(text.ZZNewScalarText(parts, a, b), n)', its second call. -/
theorem zzpfx (gt n : Nat) (oa : Option Addr) (np oc : Nat) (PS : List (List UInt8)) (w : World) (hc : w.cell? ⟨gt, 0, none⟩ = some (.slice oa np oc)) (hP : Parts w (.slice oa np oc) PS) (hnp : np = PS.length) (hn : n ≤ 65536) (hsm : np ≤ 2097152) :
    Calls Try.prog 7 #[.pointer (some ⟨gt, 0, none⟩), .int .i64 (n : Int)] w fun e w' => e = .returned (.string ⟨(PS.flatten.take n).toArray⟩) ∧ Below w.heap.size w w' := by
  have HP := hide hP
  have HNP := hide hnp
  clear hP hnp
  go_enter Try.func7, Try.ntmps7
  go_wp2_with fail
  refine (pfx gt n oa np oc PS _ hc (unhide HP) (unhide HNP) hn hsm).mono ?_
  rintro e w' ⟨rfl, hb⟩
  go_wp2_with fail
  go_ret
  exact ⟨rfl, hb⟩

theorem zznew (oa : Option Addr) (np oc : Nat) (x y : Int) (w : World) :
    Calls Try.prog 8 #[.slice oa np oc, .int .i64 x, .int .i64 y] w fun e w' => e = .returned (.pointer (some ⟨w.heap.size, 0, none⟩)) ∧ w'.cell? ⟨w.heap.size, 0, none⟩ = some (.slice oa np oc) ∧ Below w.heap.size w w' := by
  go_enter Try.func8, Try.ntmps8
  go_wp2
  go_ret
  exact ⟨rfl, by simp, (Below.refl _ _).alloc (Nat.le_refl _) _⟩

theorem min_any (a b : Nat) (w : World) : Calls Try.prog 10 #[.int .i64 (a : Int), .int .i64 (b : Int)] w fun e w' => e = .returned (.int .i64 ((min a b : Nat) : Int)) ∧ w = w' := by
  by_cases h : (a : Int) < (b : Int)
  · have e : min a b = a := by omega
    rw [e]
    clear e
    go_enter Try.func10, Try.ntmps10
    go_wp2
    go_ret
    exact ⟨rfl, rfl⟩
  · have e : min a b = b := by omega
    rw [e]
    clear e
    go_enter Try.func10, Try.ntmps10
    go_wp2
    go_ret
    exact ⟨rfl, rfl⟩

end Go.Proofs.Qxb6617787a
