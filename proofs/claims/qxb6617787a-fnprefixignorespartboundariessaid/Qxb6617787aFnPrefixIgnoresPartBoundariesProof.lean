/-
  THE PROOF OF 'Rows.FnPrefixIgnoresPartBoundariesSaid'. The frame (lifted, over, proved) is after the guide's shell for a law over slices; the first argument, a slice of slices of bytes, is opened by 'Go.Deep.open_int_rows'. The walks: Qxb6617787aMainIn.lean, MainOutA.lean, MainOutB.lean.
-/
import Derived.Test.Qxb6617787aRows
import Derived.WalkKit
import Derived.ProofKit
import Derived.OpenShut
import Derived.ShutString
import Derived.ChangeOld
import Derived.Below
import Derived.Deep.Matrix
import Derived.Test.Qxb6617787aMainIn
import Derived.Test.Qxb6617787aMainOutA
import Derived.Test.Qxb6617787aMainOutB
namespace Go.Proofs.Qxb6617787a.fnPrefixIgnoresPartBoundaries
open Go.ChangeShapes Go.WideShapes Go.ChangeAt Go.RowKit
set_option linter.unusedVariables false

theorem own : ownKnob Try.prog.godebug = none := by kernel_rfl
theorem laidOut : laidOutB Try.prog = true := by kernel_rfl

/-! ### STEP 1: THE WALK, all ways put together -/
set_option maxHeartbeats 1000000 in
set_option maxRecDepth 100000 in
theorem main_bad (oa : Option Addr) (np oc : Nat) (tn tmax n i k : Int) (PS : List (List UInt8)) (w : World) (hP : Parts w (.slice oa np oc) PS) (hn : n < 0 ∨ 65536 < n) :
    Calls Try.prog 3 #[.slice oa np oc, .int .i64 tn, .int .i64 tmax, .int .i64 n, .int .i64 i, .int .i64 k] w fun e w' => e = .returned (.bool true) ∧ Below w.heap.size w w' := by
  obtain ⟨T, hT⟩ : ∃ T, PS.flatten.length = T := ⟨_, rfl⟩
  have HP := hide hP
  have HT := hide hT
  clear hP hT
  rcases hn with hn | hn
  · go_enter Try.func3, Try.ntmps3
    go_wp2_with fail
    refine (bytes_any _ np oc T _ _ _ _ _ PS _ (unhide HP) (unhide HT)).mono ?_
    rintro e w' ⟨⟨b, rfl, hb⟩, rfl⟩
    cases b
    · go_wp2_with fail
      go_ret
      exact ⟨rfl, Below.refl _ _⟩
    have hsum := hb rfl
    clear hb
    go_wp2_with fail
    refine (big_any _ np oc PS _ (unhide HP) (by rw [unhide HT]; exact hsum)).mono ?_
    rintro e w' ⟨⟨b, rfl, hb⟩, rfl⟩
    clear hb
    cases b <;>
    · go_wp2_with fail
      go_ret
      exact ⟨rfl, Below.refl _ _⟩
  · have hn0 : 0 ≤ n := by omega
    go_enter Try.func3, Try.ntmps3
    go_wp2_with fail
    refine (bytes_any _ np oc T _ _ _ _ _ PS _ (unhide HP) (unhide HT)).mono ?_
    rintro e w' ⟨⟨b, rfl, hb⟩, rfl⟩
    cases b
    · go_wp2_with fail
      go_ret
      exact ⟨rfl, Below.refl _ _⟩
    have hsum := hb rfl
    clear hb
    go_wp2_with fail
    refine (big_any _ np oc PS _ (unhide HP) (by rw [unhide HT]; exact hsum)).mono ?_
    rintro e w' ⟨⟨b, rfl, hb⟩, rfl⟩
    clear hb
    cases b <;>
    · go_wp2_with fail
      go_ret
      exact ⟨rfl, Below.refl _ _⟩

theorem walk (oa : Option Addr) (np oc : Nat) (tn tmax n i k : Int) (PS : List (List UInt8)) (w : World) (hP : Parts w (.slice oa np oc) PS) :
    Calls Try.prog 3 #[.slice oa np oc, .int .i64 tn, .int .i64 tmax, .int .i64 n, .int .i64 i, .int .i64 k] w fun e w' => e = .returned (.bool true) ∧ Below w.heap.size w w' := by
  by_cases hn : n < 0 ∨ 65536 < n
  · exact main_bad oa np oc tn tmax n i k PS w hP hn
  obtain ⟨m, rfl⟩ : ∃ m : Nat, n = (m : Int) := ⟨n.toNat, by omega⟩
  have hm : m ≤ 65536 := by omega
  by_cases hi0 : i < 0
  · exact main_neg oa np oc _ m tn tmax i k PS w hP rfl hm hi0
  by_cases hi1 : (np : Int) ≤ i
  · exact main_past oa np oc _ m tn tmax i k PS w hP rfl hm (by omega) hi1
  obtain ⟨ii, rfl⟩ : ∃ ii : Nat, i = (ii : Int) := ⟨i.toNat, by omega⟩
  have hii : ii < np := by omega
  by_cases hk0 : k < 0
  · exact main_kneg oa np oc _ m tn tmax ii k PS w hP rfl hm hii hk0
  obtain ⟨kk, rfl⟩ : ∃ kk : Nat, k = (kk : Int) := ⟨k.toNat, by omega⟩
  by_cases hk1 : kk ≤ (PS.getD ii []).length
  · exact main_in oa np oc _ m ii kk tn tmax PS w hP rfl hm hii hk1
  · exact main_kpast oa np oc _ m tn tmax ii kk PS w hP rfl hm hii (by omega)

/-! ### FROM THE READING OF THE ARGUMENT TO 'Parts' -/
theorem pl_range {w : World} (f : Nat → Value) (g : Nat → List UInt8) : ∀ n, (∀ r, r < n → Part w (f r) (g r)) → PL w ((List.range n).map f) ((List.range n).map g)
  | 0, _ => trivial
  | n + 1, h => by
    rw [List.range_succ, List.map_append, List.map_append]
    exact (pl_range f g n (fun r hr => h r (by omega))).snoc (h n (by omega))

theorem byte_back (z : Int) (h : (Lit.int .u8 z).wf = true) : ((UInt8.ofNat z.toNat).toNat : Int) = z := by
  have := bounds_u8 h
  have e : (UInt8.ofNat z.toNat).toNat = z.toNat := by
    rw [UInt8.toNat_ofNat']
    omega
  rw [e]
  omega

theorem part_of {w : World} {A : Option Addr} {L C : Nat} {Z : List Int} (hl : L ≤ C) (hm : C ≤ maxLen) (hz : Z.length = C) (hw : ∀ n ∈ Z, (Lit.int .u8 n).wf = true) (hn : A = none → C = 0)
    (hc : ∀ a', A = some a' → ∀ c, c < C → w.cell? (a'.add c) = some (.int .u8 (Z.getD c 0))) : Part w (.slice A L C) ((Z.take L).map fun z => UInt8.ofNat z.toNat) := by
  have hlen : ((Z.take L).map fun z => UInt8.ofNat z.toNat).length = L := by simp; omega
  refine ⟨A, C, by rw [hlen], by rw [hlen]; exact hl, hm, ⟨hn, fun h0 => ?_⟩, fun x hx j u hu => ?_⟩
  · cases A with
    | none => have := hn rfl; omega
    | some a' =>
      obtain ⟨b, off, spot⟩ := a'
      have h1 := hc _ rfl 0 h0
      have hspot : spot = none := by simpa [Addr.add] using World.cell?_spot h1
      subst hspot
      exact ⟨b, off, rfl⟩
  · have hj := (List.getElem?_eq_some_iff.1 hu).1
    rw [byteCells_length, hlen] at hj
    have h1 := hc x hx j (by omega)
    have e : (Lib.byteCells ((Z.take L).map fun z => UInt8.ofNat z.toNat))[j]? = some (.int .u8 (Z.getD j 0)) := by
      have hjz : j < Z.length := by omega
      have hb := byte_back Z[j] (hw _ (List.getElem_mem hjz))
      simp [Lib.byteCells, List.getD, hjz, hj]
      simpa using hb
    rw [e] at hu
    rw [h1]
    exact hu

theorem nil_parts (w : World) : Parts w (.slice none 0 0) [] := ⟨none, 0, [], rfl, Nat.le_refl _, Nat.zero_le _, trivial, fun h => absurd h (Nat.lt_irrefl 0)⟩

theorem parts_of {w : World} {a : Addr} {len cap : Nat} {A : Nat → Option Addr} {L C : Nat → Nat} {Z : Nat → List Int} (hl : len ≤ cap) (hm : cap ≤ maxLen)
    (h : ∀ r, r < cap → w.cell? (a.add r) = some (.slice (A r) (L r) (C r)) ∧ L r ≤ C r ∧ C r ≤ maxLen ∧ (Z r).length = C r ∧ (∀ n ∈ Z r, (Lit.int .u8 n).wf = true) ∧ (A r = none → C r = 0) ∧
        ∀ a', A r = some a' → 0 ≤ a'.block ∧ ∀ c, c < C r → w.cell? (a'.add c) = some (.int .u8 ((Z r).getD c 0))) :
    Parts w (.slice (some a) len cap) ((List.range len).map fun r => ((Z r).take (L r)).map fun z => UInt8.ofNat z.toNat) := by
  have hlen : ((List.range len).map fun r => ((Z r).take (L r)).map fun z => UInt8.ofNat z.toNat).length = len := by simp
  refine ⟨some a, cap, (List.range len).map fun r => .slice (A r) (L r) (C r), by rw [hlen], by rw [hlen]; exact hl, hm, pl_range _ _ len (fun r hr => ?_), fun h0 => ?_⟩
  · obtain ⟨_, h1, h2, h3, h4, h5, h6⟩ := h r (by omega)
    exact part_of h1 h2 h3 h4 h5 (fun a' ha' => (h6 a' ha').2)
  · rw [hlen] at h0
    obtain ⟨b, off, spot⟩ := a
    have hspot : spot = none := by simpa [Addr.add] using World.cell?_spot (h 0 (by omega)).1
    subst hspot
    refine ⟨b, off, rfl, fun r hr => ?_⟩
    rw [hlen] at hr
    have h1 := (h r (by omega)).1
    rw [Addr.add_lit] at h1
    rw [h1]
    simp [hr]

/-! ### THE ROW's STEP -/
set_option maxRecDepth 100000 in
theorem lifted (os : Os) (started : os.Started) (H : Type) (enc : TypeId × Value → H) :
    ReturnsInHanded {} Try.checked os 3 .any (Rows.fnPrefixIgnoresPartBoundariesSpec.pre6 enc Try.prog Try.f3 Rows.fnPrefixIgnoresPartBoundariesRow.domain false) (Rows.fnPrefixIgnoresPartBoundariesSpec.post enc Try.prog Try.f3 false true false false) := by
  refine returnsInHanded_of_change (C := Try.checked) own started (by kernel_rfl) Try.func3
    (ChangeSpec.witness6 (enc := enc) (C := Try.checked) false ⟨#[], #[.slice none 0 0, .int .i64 0, .int .i64 0, .int .i64 0, .int .i64 0, .int .i64 0], []⟩ 8 (by kernel_rfl) (by kernel_rfl) (by kernel_rfl) (by kernel_rfl)) ?_
  intro W base args ds gs before hval0 hW hcnd _
  have hval : ∀ (j : Nat) t v, Try.f3.params[j]? = some t → args[j]? = some v → Value.okWide Try.prog W .any base t v := hval0
  have hW' := hW
  obtain ⟨p, q, hA0, hV, rfl, hfz, hnd⟩ := hW
  have hA : DataW.TrodAll enc Try.prog W 0 (fun _ => true) true Try.f3.params.toList args.toList ds p := hA0
  rw [Try.params3] at hA hval
  obtain ⟨v0, vs0, d0, ds0, p0, q0, hargs, rfl, rfl, h0, r0⟩ := trodAll_cons hA
  obtain ⟨v1, vs1, d1, ds1, p1, q1, rfl, rfl, rfl, h1, r1⟩ := trodAll_cons r0
  obtain ⟨v2, vs2, d2, ds2, p2, q2, rfl, rfl, rfl, h2, r2⟩ := trodAll_cons r1
  obtain ⟨v3, vs3, d3, ds3, p3, q3, rfl, rfl, rfl, h3, r3⟩ := trodAll_cons r2
  obtain ⟨v4, vs4, d4, ds4, p4, q4, rfl, rfl, rfl, h4, r4⟩ := trodAll_cons r3
  obtain ⟨v5, vs5, d5, ds5, p5, q5, rfl, rfl, rfl, h5, r5⟩ := trodAll_cons r4
  obtain ⟨rfl, rfl, rfl⟩ := trodAll_nil r5
  obtain rfl : args = #[v0, v1, v2, v3, v4, v5] := by cases args; simp_all
  obtain ⟨rfl, rfl⟩ := trodVars_none hV
  obtain ⟨a0, len0, cap0, rfl⟩ := okWide_slice Try.underlying22 (hval 0 22 v0 rfl rfl)
  have k0 := h0
  have lt0 : ∀ x ∈ p0, x.block < W.heap.size := by obtain ⟨m, hm⟩ := k0; exact DataW.trod_lt m _ _ _ hm
  obtain ⟨PS, w0⟩ : ∃ PS, Parts W (.slice a0 len0 cap0) PS := by
    obtain ⟨fuel, hf⟩ := h0
    rcases Go.Deep.open_int_rows Try.underlying22 Try.underlying25 Try.underlying5 (by kernel_rfl) (by kernel_rfl) hf with ⟨hcs, _⟩ | ⟨x, l, c, A, L, C, Z, hcs, _, hl, hm, _, hrows⟩
    · simp [Value.cells] at hcs
      obtain ⟨rfl, rfl, rfl⟩ := hcs
      exact ⟨[], nil_parts W⟩
    · simp [Value.cells] at hcs
      obtain ⟨rfl, rfl, rfl⟩ := hcs
      exact ⟨_, parts_of hl hm hrows⟩
  obtain ⟨a1, rfl, rfl, rfl, w1⟩ := open_int Try.underlying3 (hval 1 3 v1 rfl rfl) h1
  obtain ⟨a2, rfl, rfl, rfl, w2⟩ := open_int Try.underlying3 (hval 2 3 v2 rfl rfl) h2
  obtain ⟨a3, rfl, rfl, rfl, w3⟩ := open_int Try.underlying3 (hval 3 3 v3 rfl rfl) h3
  obtain ⟨a4, rfl, rfl, rfl, w4⟩ := open_int Try.underlying3 (hval 4 3 v4 rfl rfl) h4
  obtain ⟨a5, rfl, rfl, rfl, w5⟩ := open_int Try.underlying3 (hval 5 3 v5 rfl rfl) h5
  clear hA0 hval0
  refine (walk a0 len0 cap0 a1 a2 a3 a4 a5 PS W w0).mono fun e W' ⟨he, bel⟩ => ?_
  subst he
  exact ⟨_, rfl, _, _, _, [], _, [], hW', trodAll_mk1 (shut_bool Try.underlying4 _), (trodAll_cons_mk (Below.trod laidOut (by kernel_rfl) (of_decide_eq_true (by kernel_rfl)) k0 bel lt0) (trodAll_cons_mk (shut_int Try.underlying3 w1) (trodAll_cons_mk (shut_int Try.underlying3 w2) (trodAll_cons_mk (shut_int Try.underlying3 w3) (trodAll_cons_mk (shut_int Try.underlying3 w4) (trodAll_cons_mk (shut_int Try.underlying3 w5) trodAll_mk0)))))), rfl, bel.frame _, fun h => by cases h⟩

theorem over : Rows.fnPrefixIgnoresPartBoundariesRow.holds Try.pinned (OpenSpec.ofChange Rows.fnPrefixIgnoresPartBoundariesSpec) :=
  OpenClaim.holds_of_wide 3 Try.f3 rfl rfl rfl rfl rfl rfl rfl ⟨rfl, rfl, rfl, rfl, rfl⟩ rfl rfl rfl rfl rfl (by kernel_rfl) Try.func3 (by kernel_rfl)
    (of_decide_eq_true (by kernel_rfl)) (by unfold Func.isWrapper; first | (rw [if_pos (by decide +kernel)]; kernel_rfl) | (rw [if_neg (by decide +kernel)]; exact ⟨rfl, rfl⟩))
    (fun os started H enc _ => lifted os started H enc)

/-- ████ THE STATEMENT ████ -/
theorem proved : Rows.FnPrefixIgnoresPartBoundariesSaid := over
#print axioms proved
end Go.Proofs.Qxb6617787a.fnPrefixIgnoresPartBoundaries
