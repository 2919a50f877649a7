/-
  THE PROOF OF 'Rows.FnAddsRoomSplitsKeyAndDeltaSaid'. The frame (lifted, over, proved) is the given shell's; the walk and its helpers are ours: it goes by the contracts of Room (Qxb6616933aRoom.lean) and of the law's two counts (Qxb6616933aLens.lean).
-/
import Derived.Test.Qxb6616933aRows
import Derived.WalkKit
import Derived.ProofKit
import Derived.OpenShut
import Derived.ShutString
import Derived.ChangeOld
import Derived.Below
import Derived.Test.Qxb6616933aLens
namespace Go.Proofs.Qxb6616933a.fnAddsRoomSplitsKeyAndDelta
open Go.ChangeShapes Go.WideShapes Go.ChangeAt Go.RowKit
open Go.ChangeMaps (open_string shut_string)
set_option linter.unusedVariables false

theorem own : ownKnob Try.prog.godebug = none := by kernel_rfl
theorem laidOut : laidOutB Try.prog = true := by kernel_rfl

/-- WHAT THE WALK IS TOLD OF A SLICE OF INTEGERS THAT CAME IN: it is nil; or it leads to a row of 'cap' cells, the numbers 'zs' (the first 'len' are its elements, the rest its spare room), each fitting its kind. -/
def IsRow (k : IntKind) (w : World) (a : Option Addr) (len cap : Nat) (zs : List Int) : Prop :=
  (a = none ∧ len = 0 ∧ cap = 0 ∧ zs = []) ∨
  ∃ x, a = some x ∧ len ≤ cap ∧ cap ≤ maxLen ∧ zs.length = cap ∧ (∀ i, i < zs.length → w.cell? (x.add i) = some (.int k (zs.getD i 0))) ∧ ∀ n ∈ zs, (Lit.int k n).wf = true

/-! ### STEP 1: THE WALK: by the contracts. -/
open Plain

set_option maxHeartbeats 400000 in
theorem small_any (a0 : Option Addr) (n0 c0 : Nat) (a1 : Option Addr) (n1 c1 : Nat) (d : Int) (w : World) (h0 : n0 ≤ maxLen) (h1 : n1 ≤ maxLen) :
    Calls Try.prog 5 #[.slice a0 n0 c0, .slice a1 n1 c1, .int .i64 d] w fun e w' => (∃ b, e = .returned (.bool b)) ∧ w = w' := by
  unfold maxLen at h0 h1
  by_cases k0 : n0 ≤ 1048576
  · by_cases k1 : n1 ≤ 1048576
    · by_cases k2 : n0 + n1 ≤ 1048576
      · go_enter Try.func5, Try.ntmps5
        go_wp2
        go_ret
        exact ⟨⟨_, rfl⟩, rfl⟩
      · go_enter Try.func5, Try.ntmps5
        go_wp2
        go_ret
        exact ⟨⟨_, rfl⟩, rfl⟩
    · go_enter Try.func5, Try.ntmps5
      go_wp2
      go_ret
      exact ⟨⟨_, rfl⟩, rfl⟩
  · go_enter Try.func5, Try.ntmps5
    go_wp2
    go_ret
    exact ⟨⟨_, rfl⟩, rfl⟩

/-- Room by the value that it gives. -/
theorem room_is (r : Int) (p : Value) (n c : Nat) (a : Option Addr) (d : Int) (w : World) (hn : n ≤ 1048577) (hd : (Lit.int .i64 d).wf = true) (hr : ul n + n + (1 + ul (zig d)) = r) :
    Calls Try.prog 6 #[p, .slice a n c, .int .i64 d] w fun e w' => e = .returned (.int .i64 r) ∧ Below w.heap.size w w' := by
  subst hr
  exact room p n c a d w hn hd

theorem uvlen_is (u : Int) (n : Nat) (w : World) (hn : n ≤ 1048576) (hu : ul n = u) : Calls Try.prog 7 #[.int .i64 (n : Int)] w fun e w' => e = .returned (.int .i64 u) ∧ w = w' := by
  subst hu
  exact uvlen n w hn
theorem varlen_is (v : Int) (d : Int) (w : World) (hv : ul (zig d) = v) : Calls Try.prog 8 #[.int .i64 d] w fun e w' => e = .returned (.int .i64 v) ∧ w = w' := by
  subst hv
  exact varlen d w

theorem ret_bool {b : Bool} (h : b = true) : Ending.returned (.bool b) = .returned (.bool true) := by rw [h]
theorem wf_zero : (Lit.int .i64 0).wf = true := WalkArith.wf_i64 (by omega)

set_option maxHeartbeats 1000000 in
set_option maxRecDepth 100000 in
theorem walk (a0 : Option Addr) (len0 cap0 : Nat) (z0 : List Int) (a1 : Option Addr) (len1 cap1 : Nat) (z1 : List Int) (a2 : Int) (w : World) (w0 : IsRow .u8 w a0 len0 cap0 z0) (w1 : IsRow .u8 w a1 len1 cap1 z1) (w2 : (Lit.int .i64 a2).wf = true) :
    Calls Try.prog 3 #[.slice a0 len0 cap0, .slice a1 len1 cap1, .int .i64 a2] w fun e w' => e = .returned (.bool true) ∧ Below w.heap.size w w' := by
  have m0 : len0 ≤ maxLen := by rcases w0 with ⟨_, rfl, _⟩ | ⟨x, _, hl, hm, _⟩ <;> omega
  have m1 : len1 ≤ maxLen := by rcases w1 with ⟨_, rfl, _⟩ | ⟨x, _, hl, hm, _⟩ <;> omega
  clear w0 w1
  obtain ⟨u, hu⟩ : ∃ u, ul len0 = u := ⟨_, rfl⟩
  obtain ⟨u2, hu2⟩ : ∃ u2, ul len1 = u2 := ⟨_, rfl⟩
  obtain ⟨v, hv⟩ : ∃ v, ul (zig a2) = v := ⟨_, rfl⟩
  have bu := ul_bd len0
  have bu2 := ul_bd len1
  have bv := ul_bd (zig a2)
  rw [hu] at bu
  rw [hu2] at bu2
  rw [hv] at bv
  have HU := hide hu
  have HU2 := hide hu2
  have HV := hide hv
  have HZ : Hid (ul (zig 0) = 1) := by show ul (zig 0) = 1; decide
  have HW := hide w2
  clear hu hu2 hv w2
  go_enter Try.func3, Try.ntmps3
  go_wp2_with fail
  refine (small_any _ _ _ _ _ _ _ _ m0 m1).mono ?_
  rintro e w' ⟨⟨b, rfl⟩, rfl⟩
  clear m0 m1
  cases b
  · go_wp2_with fail
    go_ret
    exact ⟨rfl, Below.refl _ _⟩
  by_cases k0 : len0 ≤ 1048576
  · by_cases k1 : len1 ≤ 1048576
    · by_cases k2 : len0 + len1 ≤ 1048576
      · go_wp2_with fail
        refine (room_is (u + len0 + (1 + v)) _ len0 cap0 a0 a2 _ (by omega) (unhide HW) (by rw [unhide HU, unhide HV])).mono ?_
        rintro e w1 ⟨rfl, b1⟩
        have b1 := ((Below.refl _ _).alloc (Nat.le_refl _) _).trans (b1.mono (by simp))
        go_wp2_with fail
        refine (room_is (u + len0 + 2) _ len0 cap0 a0 0 _ (by omega) wf_zero (by rw [unhide HU, unhide HZ]; omega)).mono ?_
        rintro e w2 ⟨rfl, b2⟩
        have b2 := b1.trans (b2.mono b1.size)
        clear b1
        go_wp2_with fail
        refine (room_is (u2 + len1 + (1 + v)) _ len1 cap1 a1 a2 _ (by omega) (unhide HW) (by rw [unhide HU2, unhide HV])).mono ?_
        rintro e w3 ⟨rfl, b3⟩
        have b3 := b2.trans (b3.mono b2.size)
        clear b2
        go_wp2_with fail
        refine (room_is (u2 + len1 + 2) _ len1 cap1 a1 0 _ (by omega) wf_zero (by rw [unhide HU2, unhide HZ]; omega)).mono ?_
        rintro e w4 ⟨rfl, b4⟩
        have b4 := b3.trans (b4.mono b3.size)
        clear b3
        go_wp2_with fail
        refine (uvlen_is u len0 _ k0 (unhide HU)).mono ?_
        rintro e w5 ⟨rfl, rfl⟩
        go_wp2_with fail
        refine (varlen_is v a2 _ (unhide HV)).mono ?_
        rintro e w6 ⟨rfl, rfl⟩
        go_wp2_with fail
        go_ret
        exact ⟨ret_bool (show (u2 + (len1 : Int) + (1 + v) - (u2 + (len1 : Int) + 2) == v - 1) = true from by simp; omega), b4⟩
      · go_wp2_with fail
        go_ret
        exact ⟨rfl, Below.refl _ _⟩
    · go_wp2_with fail
      go_ret
      exact ⟨rfl, Below.refl _ _⟩
  · go_wp2_with fail
    go_ret
    exact ⟨rfl, Below.refl _ _⟩

/-! ### THE ROW's STEP: WRITTEN OUT: LEAVE IT -/
set_option maxRecDepth 100000 in
theorem lifted (os : Os) (started : os.Started) (H : Type) (enc : TypeId × Value → H) :
    ReturnsInHanded {} Try.checked os 3 .any (Rows.fnAddsRoomSplitsKeyAndDeltaSpec.pre6 enc Try.prog Try.f3 Rows.fnAddsRoomSplitsKeyAndDeltaRow.domain false) (Rows.fnAddsRoomSplitsKeyAndDeltaSpec.post enc Try.prog Try.f3 false true false false) := by
  refine returnsInHanded_of_change (C := Try.checked) own started (by kernel_rfl) Try.func3
    (ChangeSpec.witness6 (enc := enc) (C := Try.checked) false ⟨#[], #[.slice none 0 0, .slice none 0 0, .int .i64 0], []⟩ 8 (by kernel_rfl) (by kernel_rfl) (by kernel_rfl) (by kernel_rfl)) ?_
  intro W base args ds gs before hval0 hW hcnd _
  have hval : ∀ (j : Nat) t v, Try.f3.params[j]? = some t → args[j]? = some v → Value.okWide Try.prog W .any base t v := hval0
  have hW' := hW
  obtain ⟨p, q, hA0, hV, rfl, hfz, hnd⟩ := hW
  have hA : DataW.TrodAll enc Try.prog W 0 (fun _ => true) true Try.f3.params.toList args.toList ds p := hA0
  rw [Try.params3] at hA hval
  obtain ⟨v0, vs0, d0, ds0, p0, q0, hargs, rfl, rfl, h0, r0⟩ := trodAll_cons hA
  obtain ⟨v1, vs1, d1, ds1, p1, q1, rfl, rfl, rfl, h1, r1⟩ := trodAll_cons r0
  obtain ⟨v2, vs2, d2, ds2, p2, q2, rfl, rfl, rfl, h2, r2⟩ := trodAll_cons r1
  obtain ⟨rfl, rfl, rfl⟩ := trodAll_nil r2
  obtain rfl : args = #[v0, v1, v2] := by cases args; simp_all
  obtain ⟨rfl, rfl⟩ := trodVars_none hV
  obtain ⟨a0, len0, cap0, rfl⟩ := okWide_slice Try.underlying22 (hval 0 22 v0 rfl rfl)
  have k0 := h0
  have lt0 : ∀ x ∈ p0, x.block < W.heap.size := by obtain ⟨m, hm⟩ := k0; exact DataW.trod_lt m _ _ _ hm
  obtain ⟨z0, w0⟩ : ∃ zs, IsRow .u8 W a0 len0 cap0 zs := by
    obtain ⟨fuel, hf⟩ := h0
    rcases open_ints Try.underlying22 Try.underlying5 (by kernel_rfl) hf with ⟨hcs, _⟩ | ⟨x, l, c, zs, hcs, _, hl, hm, hz, _, hcell, hwz⟩
    · simp [Value.cells] at hcs
      obtain ⟨rfl, rfl, rfl⟩ := hcs
      exact ⟨[], .inl ⟨rfl, rfl, rfl, rfl⟩⟩
    · simp [Value.cells] at hcs
      obtain ⟨rfl, rfl, rfl⟩ := hcs
      exact ⟨zs, .inr ⟨_, rfl, hl, hm, by simpa using hz, hcell, hwz⟩⟩
  obtain ⟨a1, len1, cap1, rfl⟩ := okWide_slice Try.underlying22 (hval 1 22 v1 rfl rfl)
  have k1 := h1
  have lt1 : ∀ x ∈ p1, x.block < W.heap.size := by obtain ⟨m, hm⟩ := k1; exact DataW.trod_lt m _ _ _ hm
  obtain ⟨z1, w1⟩ : ∃ zs, IsRow .u8 W a1 len1 cap1 zs := by
    obtain ⟨fuel, hf⟩ := h1
    rcases open_ints Try.underlying22 Try.underlying5 (by kernel_rfl) hf with ⟨hcs, _⟩ | ⟨x, l, c, zs, hcs, _, hl, hm, hz, _, hcell, hwz⟩
    · simp [Value.cells] at hcs
      obtain ⟨rfl, rfl, rfl⟩ := hcs
      exact ⟨[], .inl ⟨rfl, rfl, rfl, rfl⟩⟩
    · simp [Value.cells] at hcs
      obtain ⟨rfl, rfl, rfl⟩ := hcs
      exact ⟨zs, .inr ⟨_, rfl, hl, hm, by simpa using hz, hcell, hwz⟩⟩
  obtain ⟨a2, rfl, rfl, rfl, w2⟩ := open_int Try.underlying2 (hval 2 2 v2 rfl rfl) h2
  clear hA0 hval0
  refine (walk a0 len0 cap0 z0 a1 len1 cap1 z1 a2 W w0 w1 w2).mono fun e W' ⟨he, bel⟩ => ?_
  subst he
  exact ⟨_, rfl, _, _, _, [], _, [], hW', trodAll_mk1 (shut_bool Try.underlying4 _), (trodAll_cons_mk (Below.trod laidOut (by kernel_rfl) (of_decide_eq_true (by kernel_rfl)) k0 bel lt0) (trodAll_cons_mk (Below.trod laidOut (by kernel_rfl) (of_decide_eq_true (by kernel_rfl)) k1 bel lt1) (trodAll_cons_mk (shut_int Try.underlying2 w2) trodAll_mk0))), rfl, bel.frame _, fun h => by cases h⟩

theorem over : Rows.fnAddsRoomSplitsKeyAndDeltaRow.holds Try.pinned (OpenSpec.ofChange Rows.fnAddsRoomSplitsKeyAndDeltaSpec) :=
  OpenClaim.holds_of_wide 3 Try.f3 rfl rfl rfl rfl rfl rfl rfl ⟨rfl, rfl, rfl, rfl, rfl⟩ rfl rfl rfl rfl rfl (by kernel_rfl) Try.func3 (by kernel_rfl)
    (of_decide_eq_true (by kernel_rfl)) (by unfold Func.isWrapper; first | (rw [if_pos (by decide +kernel)]; kernel_rfl) | (rw [if_neg (by decide +kernel)]; exact ⟨rfl, rfl⟩))
    (fun os started H enc _ => lifted os started H enc)

/-- ████ THE STATEMENT ████ -/
theorem proved : Rows.FnAddsRoomSplitsKeyAndDeltaSaid := over
#print axioms proved
end Go.Proofs.Qxb6616933a.fnAddsRoomSplitsKeyAndDelta
