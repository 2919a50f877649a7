/-
  THE WALKS of encoding/binary.PutUvarint (12) and PutVarint (11) over a row of ten bytes.
-/
import Derived.Test.Qxb6616933aRows
import Derived.Test.Qxb6616933aBits
import Derived.WalkKit
import Derived.WalkSpells
namespace Go.Proofs.Qxb6616933a
open Go.RowKit
open Plain

theorem hide {p : Prop} (h : p) : Hid p := h
theorem unhide {p : Prop} (h : Hid p) : p := h

/-- Block g is a row of ten cells that may be written. -/
def Ten (w : World) (g : Nat) : Prop := ∃ cur e, w.heap[g]? = some (.cells cur e (0, 0)) ∧ cur.size = 10

theorem Ten.cell {w : World} {g : Nat} (h : Ten w g) (j : Nat) (hj : j < 10) : ∃ v, w.cell? ⟨g, j, none⟩ = some v := by
  obtain ⟨cur, e, hg, hs⟩ := h
  exact ⟨cur[j], by rw [cell_of_row w g j cur e (0, 0) hg]; simp [hs, hj]⟩

theorem Ten.frozen {w : World} {g : Nat} (h : Ten w g) (j : Nat) : w.frozen? ⟨g, j, none⟩ = false := by
  obtain ⟨cur, e, hg, hs⟩ := h
  exact frozen_of_row w g j cur e hg

theorem Ten.set {w : World} {g : Nat} (h : Ten w g) (j : Nat) (u : Value) : Ten (w.setCell ⟨g, j, none⟩ u) g := by
  obtain ⟨cur, e, hg, hs⟩ := h
  exact ⟨cur.setIfInBounds j u, e, heap_setCell_same w g j cur e u hg, by simpa using hs⟩

theorem ret_int {k : IntKind} {a b : Int} (h : a = b) : Ending.returned (.int k a) = .returned (.int k b) := by rw [h]

def big : Int := 18446744073709551616
theorem big_eq : big = 18446744073709551616 := rfl

set_option maxHeartbeats 400000 in
theorem putu (g : Nat) (x : Int) (w : World) (h0 : 0 ≤ x) (h1 : x < big) (hten : Ten w g) :
    Calls Try.prog 12 #[.slice (some ⟨g, 0, none⟩) 10 10, .int .u64 x] w fun e w' => e = .returned (.int .i64 (ul x)) ∧ Below g w w' ∧ w'.heap.size = w.heap.size := by
  go_enter Try.func12, Try.ntmps12
  go_wp2
  go_loopw [1, 5] (fun vx vi wr => ∃ (k : Nat) (X : Int), k ≤ 9 ∧ vi = .int .i64 k ∧ vx = .int .u64 X ∧ 0 ≤ X ∧ Hid (X < lim k) ∧ Hid (X < big) ∧ Hid (ul x = k + ul X) ∧ Ten wr g ∧ Below g w wr ∧ Hid (wr.heap.size = w.heap.size)) (fun _ vi _ => 10 - (intOf vi).toNat)
  case atStart => exact ⟨0, x, by omega, rfl, rfl, h0, by rw [big_eq] at h1; simpa [lim, Hid] using h1, h1, by simp [Hid], hten, Below.refl _ _, rfl⟩
  case round =>
    obtain ⟨k, X, hk, rfl, rfl, hX0, hX1, hX2, hul, ht, hb, hsz⟩ := hrel
    obtain ⟨v, hc⟩ := ht.cell k (by omega)
    have hf := ht.frozen k
    by_cases h128 : 128 ≤ X
    · go_wp2
      have hst := lim_step k hk X hX1.out h128
      have hbig : X < 18446744073709551616 := hX2.out
      go_roundw
      case rel => exact ⟨k + 1, X / 128, by omega, by go_num, rfl, by omega, hst.2, by show X / 128 < big; rw [big_eq]; omega, by show ul x = ((k + 1 : Nat) : Int) + ul (X / 128); rw [hul.out, ul_step X hbig h128]; omega, ht.set _ _, hb.setCell (Nat.le_refl _) _, by show (wr.setCell _ _).heap.size = _; rw [← hsz.out]; simp⟩
      case measure => simp [intOf]; omega
    · go_wp2
      go_ret
      exact ⟨ret_int (by rw [hul.out, ul_last X (by omega)]), hb.setCell (Nat.le_refl _) _, by rw [← hsz.out]; simp⟩

/-- 'PutVarint': the number is folded ('zig') and written by PutUvarint. -/
theorem zig_big (d : Int) (h0 : -9223372036854775808 ≤ d) (h1 : d ≤ 9223372036854775807) : zig d < big := (zig_bd d h0 h1).2

set_option maxHeartbeats 400000 in
theorem putv (g : Nat) (d : Int) (w : World) (hd : (Lit.int .i64 d).wf = true) (hten : Ten w g) :
    Calls Try.prog 11 #[.slice (some ⟨g, 0, none⟩) 10 10, .int .i64 d] w fun e w' => e = .returned (.int .i64 (ul (zig d))) ∧ Below g w w' ∧ w'.heap.size = w.heap.size := by
  obtain ⟨hd0, hd1⟩ := i64_bd d hd
  by_cases hn : d < 0
  · have hf := fold_neg d hd0 hn
    have hz := (zig_bd d hd0 hd1).1
    have hb := zig_big d hd0 hd1
    clear hd0 hd1
    have HF := hide hf
    clear hf
    go_enter Try.func11, Try.ntmps11
    go_wp2_with fail
    rw [unhide HF]
    refine (putu g (zig d) _ hz hb hten).mono ?_
    rintro e w' ⟨rfl, hbl, hsz⟩
    have HS := hide hsz
    clear hsz
    go_wp2_with fail
    go_ret
    exact ⟨rfl, hbl, unhide HS⟩
  · have hf := fold_pos d hd1 hn
    have hz := (zig_bd d hd0 hd1).1
    have hb := zig_big d hd0 hd1
    clear hd0 hd1
    have HF := hide hf
    clear hf
    go_enter Try.func11, Try.ntmps11
    go_wp2_with fail
    rw [unhide HF]
    refine (putu g (zig d) _ hz hb hten).mono ?_
    rintro e w' ⟨rfl, hbl, hsz⟩
    have HS := hide hsz
    clear hsz
    go_wp2_with fail
    go_ret
    exact ⟨rfl, hbl, unhide HS⟩

/-- 'itemRoom(p)': the bytes of the length, and the length. -/
theorem len_big (n : Nat) (h : n ≤ 1048577) : (n : Int) < big := by rw [big_eq]; omega

theorem ten_new (w : World) (a b c d e f g h i j : Value) (t : TypeId) : Ten (w.alloc (.cells #[a, b, c, d, e, f, g, h, i, j] t)) w.heap.size := ⟨_, t, heap_alloc_new w _, rfl⟩

set_option maxHeartbeats 400000 in
theorem item (gp n c : Nat) (a : Option Addr) (w : World) (hc : w.cell? ⟨gp, 0, none⟩ = some (.slice a n c)) (hn : n ≤ 1048577) :
    Calls Try.prog 10 #[.slice (some ⟨gp, 0, none⟩) 1 1] w fun e w' => e = .returned (.int .i64 (ul n + n)) ∧ Below w.heap.size w w' := by
  go_enter Try.func10, Try.ntmps10
  go_wp2
  go_loop [3, 5, 9] (fun vn _ vi => (vi = .int .i64 0 ∧ vn = .int .i64 0) ∨ (vi = .int .i64 1 ∧ vn = .int .i64 n)) (fun _ _ vi => (1 - intOf vi).toNat)
  case atStart => exact .inl ⟨rfl, rfl⟩
  case round =>
    rcases hrel with ⟨rfl, rfl⟩ | ⟨rfl, rfl⟩
    · go_wp2
      go_round
      case rel => exact .inr ⟨rfl, rfl⟩
      case measure => simp [intOf]
    · go_wp2_with fail
      refine (putu w.heap.size (n : Int) _ (by omega) (len_big n hn) (ten_new _ _ _ _ _ _ _ _ _ _ _ _)).mono ?_
      rintro e w' ⟨rfl, hbl, hsz⟩
      clear hsz
      have hu := ul_bd (n : Int)
      go_wp2_with fail
      go_ret
      exact ⟨rfl, ((Below.refl _ _).alloc (Nat.le_refl _) _).trans hbl⟩

end Go.Proofs.Qxb6616933a
