/-
  THE WALK of (*strings.Builder).Write (13), whatever slice of bytes is written (nil too).
-/
import Derived.Test.Qxb6617787aParts
namespace Go.Proofs.Qxb6617787a
open Go.RowKit

set_option maxHeartbeats 1000000 in
theorem write_any (B b : Nat) (bs : List Value) (a : Option Addr) (m c : Nat) (S : List UInt8) (wb w : World) (h : Lib.IsBuilder 37 5 B b bs w) (hp : Part wb (.slice a m c) S) (hwb : wb.heap.size = B) (hbel : Below B wb w)
    (hlen : bs.length + m ≤ 140737488355328) :
    Calls Try.prog 13 #[.pointer (some ⟨b, 0, none⟩), .slice a m c] w fun e w' => e = .returned (.tuple #[.int .i64 m, .nilIface]) ∧ Lib.IsBuilder 37 5 B b (bs ++ Lib.byteCells S) w' ∧ Below B w w' := by
  obtain ⟨i0, hi, hz0, hz1, hz2⟩ := info_parts info5
  have hBw : B ≤ w.heap.size := by have := hbel.size; omega
  subst hwb
  go_enter Try.func13, Try.ntmps13
  go_wp2_with fail
  refine (Try.Builder_copyCheck wb.heap.size b bs _ h).mono ?_
  rintro e w1 ⟨rfl, h1', hb1⟩
  obtain ⟨hB, v, hbk, hown, hne⟩ := h1'
  have c0 : w1.cell? ⟨b, 0, none⟩ = some (.pointer (some ⟨b, 0, none⟩)) := by rw [Lib.cell_of_heap hbk]; rfl
  have c1 : w1.cell? ⟨b, 1, none⟩ = some v := by rw [Lib.cell_of_heap hbk]; rfl
  have hp1 := hp.below (hbel.trans hb1)
  obtain ⟨a', c', hv, hc, hm, hn, hcell⟩ := hp1
  simp only [Value.slice.injEq] at hv
  obtain ⟨rfl, rfl, rfl⟩ := hv
  have hlt : b < w1.heap.size := by
    rcases Nat.lt_or_ge b w1.heap.size with h' | h'
    · exact h'
    · simp [Array.getElem?_eq_none h'] at hbk
  have hs1 := hb1.size
  cases a with
  | none =>
    have hc0 := hn.1 rfl
    have hS : S.length = 0 := by omega
    obtain rfl : S = [] := List.eq_nil_of_length_eq_zero hS
    subst hc0
    have f1 : w1.frozen? ⟨b, 1, none⟩ = false := Lib.frozen_of_heap hbk 1
    obtain ⟨ao, n', cap, rfl⟩ : ∃ ao n' cap, v = .slice ao n' cap := by
      rcases hown.2 with ⟨hv, _⟩ | ⟨g, cap, cur, hv, _⟩
      · exact ⟨_, _, _, hv⟩
      · exact ⟨_, _, _, hv⟩
    clear hcell hn hp
    go_wp2_with (at_builtin; refine wpList_append_own_none rfl (.tmp 12) (.tmp 13) 25 rfl wb.heap.size 5 i0 1 Try.underlying25 hi _ bs.length bs rfl hown rfl ?_)
    go_ret2
    refine ⟨rfl, .inr ?_, ?_⟩
    · exact Lib.BuilderAt.put (T := 37) (e := 5) hB hbk (bs' := bs ++ Lib.byteCells []) (by simpa [Lib.byteCells] using hown) (by decide)
    · exact hb1.setCell (p := ⟨b, 1, none⟩) hB _
  | some x =>
    have HC := hide (hcell x rfl)
    clear hcell hn hp
    have HL := hide hlen
    go_wp2_with (at_builtin; refine wpList_append_own _ rfl (.tmp 12) (.tmp 13) 25 rfl wb.heap.size 5 i0 (.int .u8 0) 1 1 Try.underlying25 hi hz0 hz1 hz2 rfl (by decide) v bs.length bs rfl hown x S.length c (Lib.byteCells S) rfl (by rw [byteCells_length]; omega) (unhide HC) (byteCells_one S) (by unfold maxLen; omega) (by omega) (by omega) ?_)
    intro v' w2 hown' hgrow _
    have hb2 : w2.heap[b]? = some (.cells #[.pointer (some ⟨b, 0, none⟩), v] 37 (0, 0)) := by
      rw [hgrow.block b hlt (fun e => hne e.symm)]
      exact hbk
    have d0 : w2.cell? ⟨b, 0, none⟩ = some (.pointer (some ⟨b, 0, none⟩)) := by rw [Lib.cell_of_heap hb2]; rfl
    have d1 : w2.cell? ⟨b, 1, none⟩ = some v := by rw [Lib.cell_of_heap hb2]; rfl
    have f1 : w2.frozen? ⟨b, 1, none⟩ = false := Lib.frozen_of_heap hb2 1
    obtain ⟨ao, n', cap, rfl⟩ : ∃ ao n' cap, v' = .slice ao n' cap := by
      rcases hown'.2 with ⟨hv, _⟩ | ⟨g, cap, cur, hv, _⟩
      · exact ⟨_, _, _, hv⟩
      · exact ⟨_, _, _, hv⟩
    go_wp2
    go_ret2
    refine ⟨rfl, .inr ?_, ?_⟩
    · exact Lib.BuilderAt.put (T := 37) (e := 5) hB hb2 (bs' := bs ++ Lib.byteCells S) (by rw [List.length_append, byteCells_length]; exact hown') (by decide)
    · exact (hb1.grown hgrow (by omega) (fun k hk => (hown.lt k hk).1)).setCell (p := ⟨b, 1, none⟩) hB _

end Go.Proofs.Qxb6617787a
