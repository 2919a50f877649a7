/-
  THE PROOF OF 'Rows.FnAddsRoomGrowsByOneKeyByteAndIgnoresSignSaid'. The frame (lifted, over, proved) is the given shell's; the walk and its helpers are ours: it goes by the contract of Room (Qxb6616933aRoom.lean).
-/
import Derived.Test.Qxb6616933aRows
import Derived.WalkKit
import Derived.ProofKit
import Derived.OpenShut
import Derived.ShutString
import Derived.ChangeOld
import Derived.Below
import Derived.Test.Qxb6616933aRoom
import Derived.Laws.CopyOwn
namespace Go.Proofs.Qxb6616933a.fnAddsRoomGrowsByOneKeyByteAndIgnoresSign
open Go.ChangeShapes Go.WideShapes Go.ChangeAt Go.RowKit
open Go.ChangeMaps (open_string shut_string)
set_option linter.unusedVariables false

theorem own : ownKnob Try.prog.godebug = none := by kernel_rfl
theorem laidOut : laidOutB Try.prog = true := by kernel_rfl

/-- WHAT THE WALK IS TOLD OF A SLICE OF INTEGERS THAT CAME IN: it is nil; or it leads to a row of 'cap' cells, the numbers 'zs' (the first 'len' are its elements, the rest its spare room), each fitting its kind. -/
def IsRow (k : IntKind) (w : World) (a : Option Addr) (len cap : Nat) (zs : List Int) : Prop :=
  (a = none ∧ len = 0 ∧ cap = 0 ∧ zs = []) ∨
  ∃ x, a = some x ∧ len ≤ cap ∧ cap ≤ maxLen ∧ zs.length = cap ∧ (∀ i, i < zs.length → w.cell? (x.add i) = some (.int k (zs.getD i 0))) ∧ ∀ n ∈ zs, (Lit.int k n).wf = true

/-! ### STEP 1: THE WALK: by the contract of Room. -/
open Plain

theorem size5 : (Try.prog.info? 5).map (·.size) = some 1 := by kernel_rfl
theorem info5 : (Try.prog.info? 5).map (fun i => (i.zero, i.size, i.bytes)) = some (some (.int .u8 0), 1, 1) := by kernel_rfl

theorem row_cells {w w1 : World} {x : Addr} {len : Nat} {zs : List Int} (hcell : ∀ i, i < zs.length → w.cell? (x.add i) = some (.int .u8 (zs.getD i 0))) (hb : Below w.heap.size w w1) :
    ∀ j v, ((zs.take len).map (Value.int .u8))[j]? = some v → w1.cell? (x.add j) = some v := by
  intro j v hv
  have hj := (List.getElem?_eq_some_iff.1 hv).1
  simp at hj
  have h := hcell j (by omega)
  have hlt := World.block_lt_of_cell? _ _ h
  rw [hb.cell hlt, h]
  have e : ((zs.take len).map (Value.int .u8))[j]? = some (.int .u8 (zs.getD j 0)) := by simp [List.getD, show j < zs.length by omega, show j < len by omega]
  rw [e] at hv
  exact hv

/-- 'k2 := make([]byte, n+1); copy(k2, key)': the last cell of k2 is there and may be written. -/
theorem copy_run {w xm : World} {g n cap : Nat} {a : Option Addr} {zs : List Int} (hrow : IsRow .u8 w a n cap zs) (hown : ∃ xs, xm.ownsRow w.heap.size 5 1 (.slice (some ⟨g, 0, none⟩) (n + 1) (n + 1)) (n + 1) xs) (hb : Below w.heap.size w xm) :
    ∃ xc v, Sem.run Try.prog (Builtin.copy_ #[22, 22] 3 #[.slice (some ⟨g, 0, none⟩) (n + 1) (n + 1), .slice a n cap]) xm = .ok (.int .i64 n) xc ∧ xc.cell? ⟨g, n, none⟩ = some v ∧ xc.frozen? ⟨g, n, none⟩ = false ∧ Below w.heap.size w xc ∧ w.heap.size ≤ g := by
  obtain ⟨xs, hown⟩ := hown
  obtain ⟨cur, hcs, hg, hbg⟩ : ∃ cur : Array Value, cur.size = n + 1 ∧ xm.heap[g]? = some (.cells cur 5 (0, 0)) ∧ w.heap.size ≤ g := by
    rcases hown.2 with ⟨h', _⟩ | ⟨g', cap', cur, h', hbg, hg, _, _, hs, _⟩
    · simp at h'
    · simp only [Value.slice.injEq, Option.some.injEq, Addr.mk.injEq, and_true, true_and] at h'
      obtain ⟨rfl, rfl⟩ := h'
      exact ⟨cur, by simpa using hs, hg, hbg⟩
  by_cases h0 : n = 0
  · have hr := run_copy_none (P := Try.prog) xm 22 22 3 5 (some ⟨g, 0, none⟩) a (n + 1) (n + 1) n cap Try.underlying22 size5 (by rw [h0]; rfl)
    subst h0
    refine ⟨xm, cur[0], hr, ?_, frozen_of_row xm g 0 cur 5 hg, hb, hbg⟩
    rw [cell_of_row xm g 0 cur 5 (0, 0) hg]
    simp
  · rcases hrow with ⟨_, h, _⟩ | ⟨x, rfl, hl, hm, hz, hcell, hwz⟩
    · exact absurd h h0
    have e : ((zs.take n).map (Value.int .u8)).length = n := by simp; omega
    have hr := run_copy_row (P := Try.prog) xm 22 22 3 5 g 0 (n + 1) (n + 1) x n cap cur 5 ((zs.take n).map (Value.int .u8)) Try.underlying22 size5 hg (by rw [e]; exact (Nat.min_eq_left (by omega)).symm) (row_cells hcell hb) (by rw [e]; omega) (ints_oneCell _ _)
    rw [e] at hr
    have hh := setRow_heap xm g cur (cur.toList.take 0 ++ (zs.take n).map (Value.int .u8) ++ cur.toList.drop (0 + n)).toArray 5 _ hg
    have hsz : (cur.toList.take 0 ++ (zs.take n).map (Value.int .u8) ++ cur.toList.drop (0 + n)).toArray.size = n + 1 := by simp at e ⊢; omega
    refine ⟨_, (cur.toList.take 0 ++ (zs.take n).map (Value.int .u8) ++ cur.toList.drop (0 + n)).toArray[n], hr, ?_, frozen_of_row _ g n _ 5 hh, below_setRow hb hbg _, hbg⟩
    rw [cell_of_row _ g n _ 5 (0, 0) hh]
    exact Array.getElem?_eq_getElem _

set_option maxHeartbeats 400000 in
theorem small_any (a0 : Option Addr) (n0 c0 : Nat) (x d : Int) (w : World) (h0 : n0 ≤ maxLen) :
    Calls Try.prog 9 #[.slice a0 n0 c0, .int .u8 x, .int .i64 d] w fun e w' => (∃ b, e = .returned (.bool b)) ∧ w = w' := by
  unfold maxLen at h0
  by_cases k0 : n0 ≤ 1048576
  · go_enter Try.func9, Try.ntmps9
    go_wp2
    go_ret
    exact ⟨⟨_, rfl⟩, rfl⟩
  · go_enter Try.func9, Try.ntmps9
    go_wp2
    go_ret
    exact ⟨⟨_, rfl⟩, rfl⟩

/-- Room by the value that it gives. -/
theorem room_is (r : Int) (p : Value) (n c : Nat) (a : Option Addr) (d : Int) (w : World) (hn : n ≤ 1048577) (hd : (Lit.int .i64 d).wf = true) (hr : ul n + n + (1 + ul (zig d)) = r) :
    Calls Try.prog 6 #[p, .slice a n c, .int .i64 d] w fun e w' => e = .returned (.int .i64 r) ∧ Below w.heap.size w w' := by
  subst hr
  exact room p n c a d w hn hd

theorem wf_not (d : Int) (h : (Lit.int .i64 d).wf = true) : (Lit.int .i64 (-d - 1)).wf = true := by
  have := i64_bd d h
  exact WalkArith.wf_i64 (by omega)

set_option maxHeartbeats 1000000 in
set_option maxRecDepth 100000 in
theorem walk (a0 : Option Addr) (len0 cap0 : Nat) (z0 : List Int) (a1 : Int) (a2 : Int) (w : World) (w0 : IsRow .u8 w a0 len0 cap0 z0) (w1 : (Lit.int .u8 a1).wf = true) (w2 : (Lit.int .i64 a2).wf = true) :
    Calls Try.prog 4 #[.slice a0 len0 cap0, .int .u8 a1, .int .i64 a2] w fun e w' => e = .returned (.bool true) ∧ Below w.heap.size w w' := by
  have m0 : len0 ≤ maxLen := by rcases w0 with ⟨_, rfl, _⟩ | ⟨x, _, hl, hm, _⟩ <;> omega
  obtain ⟨i0, hi, hz0, hz1, hz2⟩ := info_parts info5
  obtain ⟨r, hr⟩ : ∃ r, ul len0 + len0 + (1 + ul (zig a2)) = r := ⟨_, rfl⟩
  have hrb : 0 ≤ r ∧ r ≤ len0 + 21 := by
    have := ul_bd len0; have := ul_bd (zig a2); omega
  obtain ⟨s, hs⟩ : ∃ s : Int, (if (len0 : Int) + 1 = 128 ∨ (len0 : Int) + 1 = 16384 then 2 else 1) = s := ⟨_, rfl⟩
  have HRS : Hid (len0 ≤ 1048576 → ul ((len0 + 1 : Nat) : Int) + ((len0 + 1 : Nat) : Int) + (1 + ul (zig a2)) = r + s) := fun h => by
    have := ul_grow len0 (by omega) (by omega)
    have e : ((len0 + 1 : Nat) : Int) = (len0 : Int) + 1 := by omega
    rw [e, this, ← hr, ← hs]
    split <;> omega
  have HS := hide hs
  clear hs
  have HN : Hid (bits .xor .i64 (-1) a2 = -a2 - 1) := i64_not_any a2 (i64_bd a2 w2).1 (i64_bd a2 w2).2
  have HR := hide hr
  have HB := hide hrb
  have HW := hide w2
  clear hr hrb w1 w2
  go_enter Try.func4, Try.ntmps4
  go_wp2_with fail
  refine (small_any _ _ _ _ _ _ m0).mono ?_
  rintro e w' ⟨⟨b, rfl⟩, rfl⟩
  clear m0
  cases b
  · go_wp2_with fail
    go_ret
    exact ⟨rfl, Below.refl _ _⟩
  by_cases k0 : len0 ≤ 1048576
  · go_wp2_with (at_make; refine wpList_make_full _ rfl (.tmp 25) (.tmp 25) 22 rfl w.heap.size 5 i0 (.int .u8 0) 1 Try.underlying22 hi hz0 hz1 _ _ _ _ (len0 + 1) rfl rfl (by omega) (by omega) (by rw [hz2]; omega) (by unfold maxLen; omega) (Nat.le_refl _) ?_; intro xm hownx hgrowx; obtain ⟨xc, vx, hrunx, hcx, hfx, belx, hgx⟩ := copy_run w0 ⟨_, hownx⟩ ((Below.refl _ _).grown hgrowx (Nat.le_refl _) (fun k h => by cases h)); clear hownx hgrowx)
    have b0 : Below w.heap.size w ((xc.setCell ⟨w.heap.size, len0, none⟩ (.int .u8 a1)).alloc (.cells #[.int .i64 0, .slice none 0 0, .pointer none] 28)) := (belx.setCell (Nat.le_refl _) _).alloc (by have := belx.size; simp; omega) _
    clear hrunx hcx hfx belx hgx
    refine (room_is r _ len0 cap0 a0 a2 _ (by omega) (unhide HW) (unhide HR)).mono ?_
    rintro e w1 ⟨rfl, b1⟩
    have b1 := b0.trans (b1.mono b0.size)
    clear b0
    go_wp2_with fail
    refine (room_is (r + s) _ (len0 + 1) (len0 + 1) _ a2 _ (by omega) (unhide HW) (unhide HRS k0)).mono ?_
    rintro e w2 ⟨rfl, b2⟩
    have b2 := b1.trans (b2.mono b1.size)
    clear b1
    go_wp2_with fail
    rw [unhide HN]
    refine (room_is r _ len0 cap0 a0 (-a2 - 1) _ (by omega) (wf_not _ (unhide HW)) (by rw [zig_not]; exact unhide HR)).mono ?_
    rintro e w3 ⟨rfl, b3⟩
    have b3 := b2.trans (b3.mono b2.size)
    clear b2
    go_wp2_with fail
    rw [unhide HN]
    refine (room_is (r + s) _ (len0 + 1) (len0 + 1) _ (-a2 - 1) _ (by omega) (wf_not _ (unhide HW)) (by rw [zig_not]; exact unhide HRS k0)).mono ?_
    rintro e w4 ⟨rfl, b4⟩
    have b4 := b3.trans (b4.mono b3.size)
    clear b3
    have hrb := unhide HB
    have e1 : (r == r) = true := by simp
    have e2 : (r + s == r + s) = true := by simp
    by_cases c1 : len0 + 1 = 128
    · obtain rfl : s = 2 := by rw [← unhide HS, if_pos (by omega)]
      have c1' : ((len0 : Int) + 1 == 128) = true := by simp; omega
      clear c1
      go_wp2_with fail
      go_ret
      exact ⟨rfl, b4⟩
    · have c1' : ((len0 : Int) + 1 == 128) = false := by simp; omega
      by_cases c2 : len0 + 1 = 16384
      · obtain rfl : s = 2 := by rw [← unhide HS, if_pos (by omega)]
        have c2' : ((len0 : Int) + 1 == 16384) = true := by simp; omega
        clear c2
        go_wp2_with fail
        go_ret
        exact ⟨rfl, b4⟩
      · obtain rfl : s = 1 := by rw [← unhide HS, if_neg (by omega)]
        have c2' : ((len0 : Int) + 1 == 16384) = false := by simp; omega
        go_wp2_with fail
        go_ret
        exact ⟨rfl, b4⟩
  · go_wp2_with fail
    go_ret
    exact ⟨rfl, Below.refl _ _⟩

/-! ### THE ROW's STEP: WRITTEN OUT: LEAVE IT -/
set_option maxRecDepth 100000 in
theorem lifted (os : Os) (started : os.Started) (H : Type) (enc : TypeId × Value → H) :
    ReturnsInHanded {} Try.checked os 4 .any (Rows.fnAddsRoomGrowsByOneKeyByteAndIgnoresSignSpec.pre6 enc Try.prog Try.f4 Rows.fnAddsRoomGrowsByOneKeyByteAndIgnoresSignRow.domain false) (Rows.fnAddsRoomGrowsByOneKeyByteAndIgnoresSignSpec.post enc Try.prog Try.f4 false true false false) := by
  refine returnsInHanded_of_change (C := Try.checked) own started (by kernel_rfl) Try.func4
    (ChangeSpec.witness6 (enc := enc) (C := Try.checked) false ⟨#[], #[.slice none 0 0, .int .u8 0, .int .i64 0], []⟩ 8 (by kernel_rfl) (by kernel_rfl) (by kernel_rfl) (by kernel_rfl)) ?_
  intro W base args ds gs before hval0 hW hcnd _
  have hval : ∀ (j : Nat) t v, Try.f4.params[j]? = some t → args[j]? = some v → Value.okWide Try.prog W .any base t v := hval0
  have hW' := hW
  obtain ⟨p, q, hA0, hV, rfl, hfz, hnd⟩ := hW
  have hA : DataW.TrodAll enc Try.prog W 0 (fun _ => true) true Try.f4.params.toList args.toList ds p := hA0
  rw [Try.params4] at hA hval
  obtain ⟨v0, vs0, d0, ds0, p0, q0, hargs, rfl, rfl, h0, r0⟩ := trodAll_cons hA
  obtain ⟨v1, vs1, d1, ds1, p1, q1, rfl, rfl, rfl, h1, r1⟩ := trodAll_cons r0
  obtain ⟨v2, vs2, d2, ds2, p2, q2, rfl, rfl, rfl, h2, r2⟩ := trodAll_cons r1
  obtain ⟨rfl, rfl, rfl⟩ := trodAll_nil r2
  obtain rfl : args = #[v0, v1, v2] := by cases args; simp_all
  obtain ⟨rfl, rfl⟩ := trodVars_none hV
  obtain ⟨a0, len0, cap0, rfl⟩ := okWide_slice Try.underlying22 (hval 0 22 v0 rfl rfl)
  have k0 := h0
  have lt0 : ∀ x ∈ p0, x.block < W.heap.size := by obtain ⟨m, hm⟩ := k0; exact DataW.trod_lt m _ _ _ hm
  obtain ⟨z0, w0⟩ : ∃ zs, IsRow .u8 W a0 len0 cap0 zs := by
    obtain ⟨fuel, hf⟩ := h0
    rcases open_ints Try.underlying22 Try.underlying5 (by kernel_rfl) hf with ⟨hcs, _⟩ | ⟨x, l, c, zs, hcs, _, hl, hm, hz, _, hcell, hwz⟩
    · simp [Value.cells] at hcs
      obtain ⟨rfl, rfl, rfl⟩ := hcs
      exact ⟨[], .inl ⟨rfl, rfl, rfl, rfl⟩⟩
    · simp [Value.cells] at hcs
      obtain ⟨rfl, rfl, rfl⟩ := hcs
      exact ⟨zs, .inr ⟨_, rfl, hl, hm, by simpa using hz, hcell, hwz⟩⟩
  obtain ⟨a1, rfl, rfl, rfl, w1⟩ := open_int Try.underlying5 (hval 1 5 v1 rfl rfl) h1
  obtain ⟨a2, rfl, rfl, rfl, w2⟩ := open_int Try.underlying2 (hval 2 2 v2 rfl rfl) h2
  clear hA0 hval0
  refine (walk a0 len0 cap0 z0 a1 a2 W w0 w1 w2).mono fun e W' ⟨he, bel⟩ => ?_
  subst he
  exact ⟨_, rfl, _, _, _, [], _, [], hW', trodAll_mk1 (shut_bool Try.underlying4 _), (trodAll_cons_mk (Below.trod laidOut (by kernel_rfl) (of_decide_eq_true (by kernel_rfl)) k0 bel lt0) (trodAll_cons_mk (shut_int Try.underlying5 w1) (trodAll_cons_mk (shut_int Try.underlying2 w2) trodAll_mk0))), rfl, bel.frame _, fun h => by cases h⟩

theorem over : Rows.fnAddsRoomGrowsByOneKeyByteAndIgnoresSignRow.holds Try.pinned (OpenSpec.ofChange Rows.fnAddsRoomGrowsByOneKeyByteAndIgnoresSignSpec) :=
  OpenClaim.holds_of_wide 4 Try.f4 rfl rfl rfl rfl rfl rfl rfl ⟨rfl, rfl, rfl, rfl, rfl⟩ rfl rfl rfl rfl rfl (by kernel_rfl) Try.func4 (by kernel_rfl)
    (of_decide_eq_true (by kernel_rfl)) (by unfold Func.isWrapper; first | (rw [if_pos (by decide +kernel)]; kernel_rfl) | (rw [if_neg (by decide +kernel)]; exact ⟨rfl, rfl⟩))
    (fun os started H enc _ => lifted os started H enc)

/-- ████ THE STATEMENT ████ -/
theorem proved : Rows.FnAddsRoomGrowsByOneKeyByteAndIgnoresSignSaid := over
#print axioms proved
end Go.Proofs.Qxb6616933a.fnAddsRoomGrowsByOneKeyByteAndIgnoresSign
