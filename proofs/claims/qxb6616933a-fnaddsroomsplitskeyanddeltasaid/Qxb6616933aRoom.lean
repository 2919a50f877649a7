/-
  THE WALK of (*store.Adds).Room (6).
-/
import Derived.Test.Qxb6616933aPut
import Derived.Deep.RegionWith
namespace Go.Proofs.Qxb6616933a
open Go.RowKit
open Plain

theorem item_small (gp m c : Nat) (a : Option Addr) (w : World) (hc : w.cell? ⟨gp, 0, none⟩ = some (.slice a m c)) (hm : m ≤ 10) :
    Calls Try.prog 10 #[.slice (some ⟨gp, 0, none⟩) 1 1] w fun e w' => e = .returned (.int .i64 (1 + (m : Int))) ∧ Below w.heap.size w w' := by
  have h := item gp m c a w hc (by omega)
  rw [ul_last (m : Int) (by omega)] at h
  exact h

theorem putv_m (g m : Nat) (d : Int) (w : World) (hd : (Lit.int .i64 d).wf = true) (hm : ul (zig d) = (m : Int)) (hten : Ten w g) :
    Calls Try.prog 11 #[.slice (some ⟨g, 0, none⟩) 10 10, .int .i64 d] w fun e w' => e = .returned (.int .i64 (m : Int)) ∧ Below g w w' := by
  have h := putv g d w hd hten
  rw [hm] at h
  exact h.mono fun e w' ⟨he, hb, _⟩ => ⟨he, hb⟩

theorem cell_first (w : World) (A : Obj) (v : Value) (t : TypeId) : (((w.alloc A).alloc (.cells #[v] t)).drew).cell? ⟨w.heap.size + 1, 0, none⟩ = some v := by simp
theorem cell_last (w : World) (v : Value) (t : TypeId) : ((w.alloc (.cells #[v] t))).cell? ⟨w.heap.size, 0, none⟩ = some v := by simp

theorem ten_kept {w w1 : World} {a b c d e f g h i j : Value} {t : TypeId} {o : Obj} (hb : Below (((w.alloc (.cells #[a, b, c, d, e, f, g, h, i, j] t)).alloc o).drew).heap.size (((w.alloc (.cells #[a, b, c, d, e, f, g, h, i, j] t)).alloc o).drew) w1) : Ten w1 w.heap.size := by
  refine ⟨#[a, b, c, d, e, f, g, h, i, j], t, (hb.block w.heap.size (by simp [World.drew]; omega)).trans ?_, rfl⟩
  show ((w.alloc _).alloc o).heap[w.heap.size]? = _
  rw [Below.heap_alloc _ _ _ (by simp)]
  exact heap_alloc_new w _

theorem below_room {w w1 w2 w3 : World} {A o o2 : Obj} (h1 : Below (((w.alloc A).alloc o).drew).heap.size (((w.alloc A).alloc o).drew) w1) (h2 : Below w.heap.size w1 w2) (h3 : Below (w2.alloc o2).heap.size (w2.alloc o2) w3) : Below w.heap.size w w3 := by
  have a : Below w.heap.size w (((w.alloc A).alloc o).drew) := (((Below.refl _ _).alloc (Nat.le_refl _) A).alloc (by simp) o).drew
  have b := (a.trans (h1.mono a.size)).trans h2
  have c := b.alloc b.size o2
  exact c.trans (h3.mono c.size)

theorem room_val {n m : Nat} (hu : 1 ≤ ul n ∧ ul n ≤ 10) (hn : n ≤ 1048577) (hm : m ≤ 10) : Ending.returned (.int .i64 (IntKind.i64.wrap (ul n + n + (1 + (m : Int))))) = .returned (.int .i64 (ul n + n + (1 + (m : Int)))) := by
  rw [IntWalk.i64_in _ (by omega)]

set_option maxHeartbeats 1000000 in
theorem room (p : Value) (n c : Nat) (a : Option Addr) (d : Int) (w : World) (hn : n ≤ 1048577) (hd : (Lit.int .i64 d).wf = true) :
    Calls Try.prog 6 #[p, .slice a n c, .int .i64 d] w fun e w' => e = .returned (.int .i64 (ul n + n + (1 + ul (zig d)))) ∧ Below w.heap.size w w' := by
  have hu := ul_bd (n : Int)
  have hv := ul_bd (zig d)
  obtain ⟨m, hm⟩ : ∃ m : Nat, ul (zig d) = (m : Int) := ⟨(ul (zig d)).toNat, by omega⟩
  rw [hm]
  have hm10 : m ≤ 10 := by omega
  have HM := hide hm
  have hmi : (m : Int) ≤ 10 := by omega
  clear hm hv
  go_enter Try.func6, Try.ntmps6
  go_wp2
  go_region_with (first
    | (go_at_call 10; refine (item_small w2.heap.size m 10 _ _ (cell_last w2 _ _) hm10).mono ?_; rintro e w3 ⟨rfl, hb3⟩)
    | (go_at_call 11; refine (putv_m w.heap.size m d _ hd (unhide HM) (ten_kept hb1)).mono ?_; rintro e w2 ⟨rfl, hb2⟩)
    | (go_at_call 10; refine (item (w.heap.size + 1) n c a _ (cell_first w _ _ _) hn).mono ?_; rintro e w1 ⟨rfl, hb1⟩))
  all_goals
    go_wp2
    go_ret
    exact ⟨room_val hu hn hm10, below_room hb1 hb2 hb3⟩

end Go.Proofs.Qxb6616933a
