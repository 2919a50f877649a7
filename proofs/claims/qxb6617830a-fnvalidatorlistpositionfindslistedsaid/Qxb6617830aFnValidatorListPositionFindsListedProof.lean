/-
  THE PROOF OF 'Rows.FnValidatorListPositionFindsListedSaid'. The frame (lifted, over, proved) is after the guide's shell for a law over slices; the map that came in is opened by 'open_map' and 'World.ownsMap_of_fit'. The walk goes by the contracts of Qxb6617830aPos.lean and Qxb6617830aIdx.lean.
-/
import Derived.Test.Qxb6617830aRows
import Derived.WalkKit
import Derived.ProofKit
import Derived.OpenShut
import Derived.ShutString
import Derived.ChangeOld
import Derived.Below
import Derived.Test.Qxb6617830aIdx
namespace Go.Proofs.Qxb6617830a.fnValidatorListPositionFindsListed
open Go.ChangeShapes Go.WideShapes Go.ChangeAt Go.RowKit
open Go.WideElems Go.Maps
set_option linter.unusedVariables false

theorem own : ownKnob Try.prog.godebug = none := by kernel_rfl
theorem laidOut : laidOutB Try.prog = true := by kernel_rfl

/-! ### STEP 1: THE WALK -/
open Plain

/-- ZZPosition by the values that it gives. -/
theorem zzpos_is (x : Int) (y : Bool) (ia : Option Addr) (ni ic : Nat) (pa : Option Addr) (np pc nf : Nat) (r : Option Nat) (id : Int) (ps : List Int) (look : Int → Option Int) (w : World) (hp : Row w pa np ps) (hm : Mp w r nf look) (hn : np ≤ 32768) (hid : (Lit.int .i64 id).wf = true)
    (hxy : posn ps look id = (x, y)) :
    Calls Try.prog 9 #[.slice ia ni ic, .slice pa np pc, .map r, .int .i64 id] w fun e w' => e = .returned (.tuple #[.int .i64 x, .bool y]) ∧ Below w.heap.size w w' := by
  have h := zzpos_any ia ni ic pa np pc nf r id ps look w hp hm hn hid
  rw [hxy] at h
  exact h

theorem bt {a b c : World} (h : Below a.heap.size a b) (k : Below b.heap.size b c) : Below a.heap.size a c := h.trans (k.mono h.size)

set_option maxHeartbeats 2000000 in
set_option maxRecDepth 100000 in
theorem walk (ia : Option Addr) (ni ic : Nat) (pa : Option Addr) (np pc nf : Nat) (r : Option Nat) (id : Int) (zs ps : List Int) (look : Int → Option Int) (w : World) (hz : Row w ia ni zs) (hp : Row w pa np ps) (hm : Mp w r nf look) (hni : ni ≤ maxLen) (hnp : np ≤ maxLen) (hid : (Lit.int .i64 id).wf = true) :
    Calls Try.prog 4 #[.slice ia ni ic, .slice pa np pc, .map r, .int .i64 id] w fun e w' => e = .returned (.bool true) ∧ Below w.heap.size w w' := by
  unfold maxLen at hni hnp
  have hlenf := fun ty => hm.2.1 w (Below.refl _ _) ty
  have HZ := hide hz
  have HP := hide hp
  have HM := hide hm
  have HI := hide hid
  clear hz hp hm hid
  by_cases k0 : ni ≤ 32768
  · by_cases k1 : np ≤ 32768
    · by_cases k2 : nf ≤ 32768
      · go_enter Try.func4, Try.ntmps4
        go_wp2_with fail
        refine (idx_any ia ni ic pa np pc nf r zs ps look _ (unhide HZ) (unhide HP) (unhide HM) k0 k1).mono ?_
        rintro e w' ⟨⟨b, rfl, hb⟩, rfl⟩
        clear hlenf
        cases b
        · go_wp2_with fail
          go_ret
          exact ⟨rfl, Below.refl _ _⟩
        have HG := hide (hb rfl)
        clear hb
        have hlaw := (unhide HG).law (unhide HM).2.2 id
        have hloop : Hid (∀ i, i < ni → posn ps look (zs.getD i 0) = ((i : Int), true)) := fun i hi => (unhide HG).at i (by rw [(unhide HZ).1]; exact hi)
        go_wp2_with fail
        refine (find_any ia ni ic id zs _ (unhide HZ) k0).mono ?_
        rintro e w' ⟨rfl, rfl⟩
        obtain ⟨fw, hfw⟩ : ∃ fw, find zs id 0 = fw := ⟨_, rfl⟩
        rw [hfw] at hlaw ⊢
        clear hfw
        rcases hlaw with ⟨hf, hpo⟩ | ⟨hf, hpo⟩
        · have HPO := hide hpo
          subst hf
          clear hpo
          go_wp2_with fail
          refine (zzpos_is 0 false ia ni ic pa np pc nf r id ps look _ (unhide HP) (unhide HM) k1 (unhide HI) (unhide HPO)).mono ?_
          rintro e w1 ⟨rfl, b1⟩
          go_wp2_with fail
          go_loopw [12, 13, 14] (fun vi _ _ wr => ∃ j : Nat, j ≤ ni ∧ vi = .int .i64 j ∧ Below w.heap.size w wr) (fun vi _ _ _ => ni - (intOf vi).toNat)
          case atStart => exact ⟨0, Nat.zero_le _, rfl, b1⟩
          case round =>
            obtain ⟨j, hj, rfl, hb⟩ := hrel
            clear b1
            by_cases hlt : j < ni
            · obtain ⟨ib, io, rfl, hib, hcs⟩ := (unhide HZ).2.2 (by omega)
              have g : wr.cell? ⟨ib, io + j, none⟩ = some (.int .i64 (zs.getD j 0)) := (hb.cell (by exact hib)).trans (hcs j hlt)
              have wz := (unhide HZ).wf j hlt
              have hpj := unhide hloop j hlt
              obtain ⟨z, hzz⟩ : ∃ z, zs.getD j 0 = z := ⟨_, rfl⟩
              rw [hzz] at g wz hpj
              have HWZ := hide wz
              have HPJ := hide hpj
              have hi : (j : Int) < (ni : Int) := by omega
              have t : ((j : Int) != (j : Int)) = false := by simp
              clear hcs wz hpj hzz
              go_wp2_with fail
              refine (zzpos_is (j : Int) true _ ni ic pa np pc nf r z ps look _ ((unhide HP).below hb) ((unhide HM).below hb) k1 (unhide HWZ) (unhide HPJ)).mono ?_
              rintro e w2 ⟨rfl, b2⟩
              have bb := bt hb b2
              clear hb b2 g
              go_wp2_with fail
              go_roundw
              case rel => exact ⟨j + 1, by omega, by go_num, bb⟩
              case measure => simp [intOf]; omega
            · go_wp2_with fail
              go_ret
              exact ⟨rfl, hb⟩
        · have HPO := hide hpo
          have t0 : (fw != fw) = false := by simp
          clear hpo
          go_wp2_with fail
          refine (zzpos_is fw true ia ni ic pa np pc nf r id ps look _ (unhide HP) (unhide HM) k1 (unhide HI) (unhide HPO)).mono ?_
          rintro e w1 ⟨rfl, b1⟩
          go_wp2_with fail
          go_loopw [12, 13, 14] (fun vi _ _ wr => ∃ j : Nat, j ≤ ni ∧ vi = .int .i64 j ∧ Below w.heap.size w wr) (fun vi _ _ _ => ni - (intOf vi).toNat)
          case atStart => exact ⟨0, Nat.zero_le _, rfl, b1⟩
          case round =>
            obtain ⟨j, hj, rfl, hb⟩ := hrel
            clear b1
            by_cases hlt : j < ni
            · obtain ⟨ib, io, rfl, hib, hcs⟩ := (unhide HZ).2.2 (by omega)
              have g : wr.cell? ⟨ib, io + j, none⟩ = some (.int .i64 (zs.getD j 0)) := (hb.cell (by exact hib)).trans (hcs j hlt)
              have wz := (unhide HZ).wf j hlt
              have hpj := unhide hloop j hlt
              obtain ⟨z, hzz⟩ : ∃ z, zs.getD j 0 = z := ⟨_, rfl⟩
              rw [hzz] at g wz hpj
              have HWZ := hide wz
              have HPJ := hide hpj
              have hi : (j : Int) < (ni : Int) := by omega
              have t : ((j : Int) != (j : Int)) = false := by simp
              clear hcs wz hpj hzz
              go_wp2_with fail
              refine (zzpos_is (j : Int) true _ ni ic pa np pc nf r z ps look _ ((unhide HP).below hb) ((unhide HM).below hb) k1 (unhide HWZ) (unhide HPJ)).mono ?_
              rintro e w2 ⟨rfl, b2⟩
              have bb := bt hb b2
              clear hb b2 g
              go_wp2_with fail
              go_roundw
              case rel => exact ⟨j + 1, by omega, by go_num, bb⟩
              case measure => simp [intOf]; omega
            · go_wp2_with fail
              go_ret
              exact ⟨rfl, hb⟩
      · go_enter Try.func4, Try.ntmps4
        go_wp2_with fail
        go_ret
        exact ⟨rfl, Below.refl _ _⟩
    · go_enter Try.func4, Try.ntmps4
      go_wp2_with fail
      go_ret
      exact ⟨rfl, Below.refl _ _⟩
  · go_enter Try.func4, Try.ntmps4
    go_wp2_with fail
    go_ret
    exact ⟨rfl, Below.refl _ _⟩

/-! ### FROM THE READING OF AN ARGUMENT TO 'Row' -/
theorem nil_row (w : World) : Row w none 0 [] := ⟨rfl, (fun z hz => by cases hz), fun h => absurd h (Nat.lt_irrefl 0)⟩

theorem row_of {w : World} {x : Addr} {len cap : Nat} {zs : List Int} (hl : len ≤ cap) (hz : zs.length = cap) (hcell : ∀ i, i < zs.length → w.cell? (x.add i) = some (.int .i64 (zs.getD i 0))) (hw : ∀ n ∈ zs, (Lit.int .i64 n).wf = true) : Row w (some x) len (zs.take len) := by
  refine ⟨by simp; omega, fun z hz => hw z (List.mem_of_mem_take hz), fun h0 => ?_⟩
  obtain ⟨b, off, spot⟩ := x
  have h1 := hcell 0 (by omega)
  have hspot : spot = none := by simpa [Addr.add] using World.cell?_spot h1
  subst hspot
  refine ⟨b, off, rfl, by simpa [Addr.add_lit] using World.block_lt_of_cell? _ _ h1, fun j hj => ?_⟩
  have h2 := hcell j (by omega)
  rw [Addr.add_lit] at h2
  rw [h2]
  simp [List.getD, hj]

/-! ### THE ROW's STEP -/
set_option maxRecDepth 100000 in
theorem lifted (os : Os) (started : os.Started) (H : Type) (enc : TypeId × Value → H) :
    ReturnsInHanded {} Try.checked os 4 .any (Rows.fnValidatorListPositionFindsListedSpec.pre6 enc Try.prog Try.f4 Rows.fnValidatorListPositionFindsListedRow.domain false) (Rows.fnValidatorListPositionFindsListedSpec.post enc Try.prog Try.f4 false true false false) := by
  refine returnsInHanded_of_change (C := Try.checked) own started (by kernel_rfl) Try.func4
    (ChangeSpec.witness6 (enc := enc) (C := Try.checked) false ⟨#[], #[.slice none 0 0, .slice none 0 0, .map none, .int .i64 0], []⟩ 8 (by kernel_rfl) (by kernel_rfl) (by kernel_rfl) (by kernel_rfl)) ?_
  intro W base args ds gs before hval0 hW hcnd _
  have hval : ∀ (j : Nat) t v, Try.f4.params[j]? = some t → args[j]? = some v → Value.okWide Try.prog W .any base t v := hval0
  have hW' := hW
  obtain ⟨p, q, hA0, hV, rfl, hfz, hnd⟩ := hW
  have hA : DataW.TrodAll enc Try.prog W 0 (fun _ => true) true Try.f4.params.toList args.toList ds p := hA0
  rw [Try.params4] at hA hval
  obtain ⟨v0, vs0, d0, ds0, p0, q0, hargs, rfl, rfl, h0, r0⟩ := trodAll_cons hA
  obtain ⟨v1, vs1, d1, ds1, p1, q1, rfl, rfl, rfl, h1, r1⟩ := trodAll_cons r0
  obtain ⟨v2, vs2, d2, ds2, p2, q2, rfl, rfl, rfl, h2, r2⟩ := trodAll_cons r1
  obtain ⟨v3, vs3, d3, ds3, p3, q3, rfl, rfl, rfl, h3, r3⟩ := trodAll_cons r2
  obtain ⟨rfl, rfl, rfl⟩ := trodAll_nil r3
  obtain rfl : args = #[v0, v1, v2, v3] := by cases args; simp_all
  obtain ⟨rfl, rfl⟩ := trodVars_none hV
  obtain ⟨a0, len0, cap0, rfl⟩ := okWide_slice Try.underlying25 (hval 0 25 v0 rfl rfl)
  have k0 := h0
  have lt0 : ∀ x ∈ p0, x.block < W.heap.size := by obtain ⟨m, hm⟩ := k0; exact DataW.trod_lt m _ _ _ hm
  obtain ⟨z0, w0, m0⟩ : ∃ zs, Row W a0 len0 zs ∧ len0 ≤ maxLen := by
    obtain ⟨fuel, hf⟩ := h0
    rcases open_ints Try.underlying25 Try.underlying3 (by kernel_rfl) hf with ⟨hcs, _⟩ | ⟨x, l, c, zs, hcs, _, hl, hm, hz, _, hcell, hwz⟩
    · simp [Value.cells] at hcs
      obtain ⟨rfl, rfl, rfl⟩ := hcs
      exact ⟨[], nil_row W, Nat.zero_le _⟩
    · simp [Value.cells] at hcs
      obtain ⟨rfl, rfl, rfl⟩ := hcs
      exact ⟨_, row_of hl (by simpa using hz) hcell hwz, Nat.le_trans hl hm⟩
  obtain ⟨a1, len1, cap1, rfl⟩ := okWide_slice Try.underlying25 (hval 1 25 v1 rfl rfl)
  have k1 := h1
  have lt1 : ∀ x ∈ p1, x.block < W.heap.size := by obtain ⟨m, hm⟩ := k1; exact DataW.trod_lt m _ _ _ hm
  obtain ⟨z1, w1, m1⟩ : ∃ zs, Row W a1 len1 zs ∧ len1 ≤ maxLen := by
    obtain ⟨fuel, hf⟩ := h1
    rcases open_ints Try.underlying25 Try.underlying3 (by kernel_rfl) hf with ⟨hcs, _⟩ | ⟨x, l, c, zs, hcs, _, hl, hm, hz, _, hcell, hwz⟩
    · simp [Value.cells] at hcs
      obtain ⟨rfl, rfl, rfl⟩ := hcs
      exact ⟨[], nil_row W, Nat.zero_le _⟩
    · simp [Value.cells] at hcs
      obtain ⟨rfl, rfl, rfl⟩ := hcs
      exact ⟨_, row_of hl (by simpa using hz) hcell hwz, Nat.le_trans hl hm⟩
  obtain ⟨a2, rfl⟩ := okWide_map Try.underlying26 (hval 2 26 v2 rfl rfl)
  have k2 := h2
  have lt2 : ∀ x ∈ p2, x.block < W.heap.size := by obtain ⟨m, hm⟩ := k2; exact DataW.trod_lt m _ _ _ hm
  obtain ⟨nf, look, w2⟩ : ∃ nf look, Mp W a2 nf look := by
    obtain ⟨fuel, hf⟩ := h2
    rcases open_map Try.underlying26 hf with ⟨hcs, _⟩ | ⟨bm, es, clock, m, rfl, hcs, hb, _, F, _⟩
    · simp [Value.cells] at hcs
      subst hcs
      exact ⟨_, _, mp_nil W⟩
    · simp [Value.cells] at hcs
      subst hcs
      exact ⟨_, _, mp_own (World.ownsMap_of_fit (R := plainElem Try.prog 3) hb F (fun x _ z hz => elemAt_plainElem_int Try.underlying3 hz))⟩
  obtain ⟨a3, rfl, rfl, rfl, w3⟩ := open_int Try.underlying3 (hval 3 3 v3 rfl rfl) h3
  clear hA0 hval0
  refine (walk a0 len0 cap0 a1 len1 cap1 nf a2 a3 z0 z1 look W w0 w1 w2 m0 m1 w3).mono fun e W' ⟨he, bel⟩ => ?_
  subst he
  exact ⟨_, rfl, _, _, _, [], _, [], hW', trodAll_mk1 (shut_bool Try.underlying4 _), (trodAll_cons_mk (Below.trod laidOut (by kernel_rfl) (of_decide_eq_true (by kernel_rfl)) k0 bel lt0) (trodAll_cons_mk (Below.trod laidOut (by kernel_rfl) (of_decide_eq_true (by kernel_rfl)) k1 bel lt1) (trodAll_cons_mk (Below.trod laidOut (by kernel_rfl) (of_decide_eq_true (by kernel_rfl)) k2 bel lt2) (trodAll_cons_mk (shut_int Try.underlying3 w3) trodAll_mk0)))), rfl, bel.frame _, fun h => by cases h⟩

theorem over : Rows.fnValidatorListPositionFindsListedRow.holds Try.pinned (OpenSpec.ofChange Rows.fnValidatorListPositionFindsListedSpec) :=
  OpenClaim.holds_of_wide 4 Try.f4 rfl rfl rfl rfl rfl rfl rfl ⟨rfl, rfl, rfl, rfl, rfl⟩ rfl rfl rfl rfl rfl (by kernel_rfl) Try.func4 (by kernel_rfl)
    (of_decide_eq_true (by kernel_rfl)) (by unfold Func.isWrapper; first | (rw [if_pos (by decide +kernel)]; kernel_rfl) | (rw [if_neg (by decide +kernel)]; exact ⟨rfl, rfl⟩))
    (fun os started H enc _ => lifted os started H enc)

/-- ████ THE STATEMENT ████ -/
theorem proved : Rows.FnValidatorListPositionFindsListedSaid := over
#print axioms proved
end Go.Proofs.Qxb6617830a.fnValidatorListPositionFindsListed
