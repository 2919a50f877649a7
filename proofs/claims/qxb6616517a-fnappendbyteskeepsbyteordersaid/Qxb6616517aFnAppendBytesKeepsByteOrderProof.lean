/-
  THE PROOF OF 'Rows.FnAppendBytesKeepsByteOrderSaid'. The frame (lifted, over, proved) is the given shell's; the walk and its helpers are ours: it goes by the contracts of Qxb6616517aPack.lean.
-/
import Derived.Test.Qxb6616517aRows
import Derived.WalkKit
import Derived.ProofKit
import Derived.OpenShut
import Derived.ShutString
import Derived.ChangeOld
import Derived.Below
import Derived.Test.Qxb6616517aPack
import Derived.Laws.CopyOwn
namespace Go.Proofs.Qxb6616517a.fnAppendBytesKeepsByteOrder
open Go.ChangeShapes Go.WideShapes Go.ChangeAt Go.RowKit
open Go.ChangeMaps (open_string shut_string)
set_option linter.unusedVariables false

theorem own : ownKnob Try.prog.godebug = none := by kernel_rfl
theorem laidOut : laidOutB Try.prog = true := by kernel_rfl

/-- WHAT THE WALK IS TOLD OF A SLICE OF INTEGERS THAT CAME IN: it is nil; or it leads to a row of 'cap' cells, the numbers 'zs' (the first 'len' are its elements, the rest its spare room), each fitting its kind. -/
def IsRow (k : IntKind) (w : World) (a : Option Addr) (len cap : Nat) (zs : List Int) : Prop :=
  (a = none ∧ len = 0 ∧ cap = 0 ∧ zs = []) ∨
  ∃ x, a = some x ∧ len ≤ cap ∧ cap ≤ maxLen ∧ zs.length = cap ∧ (∀ i, i < zs.length → w.cell? (x.add i) = some (.int k (zs.getD i 0))) ∧ ∀ n ∈ zs, (Lit.int k n).wf = true

/-! ### STEP 1: THE WALK: by the contracts of Qxb6616517aPack.lean. -/
open Plain

theorem size5 : (Try.prog.info? 5).map (·.size) = some 1 := by kernel_rfl

/-- The cells of a slice that came in, in whatever world lies below. -/
theorem row_cells {w w1 : World} {x : Addr} {len : Nat} {zs : List Int} (hcell : ∀ i, i < zs.length → w.cell? (x.add i) = some (.int .u8 (zs.getD i 0))) (hb : Below w.heap.size w w1) :
    ∀ j v, ((zs.take len).map (Value.int .u8))[j]? = some v → w1.cell? (x.add j) = some v := by
  intro j v hv
  have hj := (List.getElem?_eq_some_iff.1 hv).1
  simp at hj
  have h := hcell j (by omega)
  have hlt := World.block_lt_of_cell? _ _ h
  rw [hb.cell hlt, h]
  have e : ((zs.take len).map (Value.int .u8))[j]? = some (.int .u8 (zs.getD j 0)) := by simp [List.getD, show j < zs.length by omega, show j < len by omega]
  rw [e] at hv
  exact hv

theorem min_of {X : List Int} {n : Nat} (h : X.length = n) : (X.map (Value.int .u8)).length = Nat.min n n := by
  rw [List.length_map, h]; exact (Nat.min_self n).symm

/-- 'make' and 'copy': the copy reads as what was copied. -/
theorem copy_run {w xm : World} {g n cap : Nat} {x : Addr} {X : List Int} (hown : ∃ xs, xm.ownsRow w.heap.size 5 1 (.slice (some ⟨g, 0, none⟩) n n) n xs) (hX : X.length = n)
    (hsrc : ∀ w1, Below w.heap.size w w1 → ∀ j v, (X.map (Value.int .u8))[j]? = some v → w1.cell? (x.add j) = some v) (hb : Below w.heap.size w xm) :
    ∃ xc, Sem.run Try.prog (Builtin.copy_ #[22, 22] 3 #[.slice (some ⟨g, 0, none⟩) n n, .slice (some x) n cap]) xm = .ok (.int .i64 n) xc ∧ Rd xc (.slice (some ⟨g, 0, none⟩) n n) X ∧ Below w.heap.size w xc ∧ Below g xm xc := by
  obtain ⟨xs, hown⟩ := hown
  obtain ⟨cur, hcs, hg, hbg⟩ : ∃ cur : Array Value, cur.size = n ∧ xm.heap[g]? = some (.cells cur 5 (0, 0)) ∧ w.heap.size ≤ g := by
    rcases hown.2 with ⟨h', _⟩ | ⟨g', cap', cur, h', hbg, hg, _, _, hs, _⟩
    · simp at h'
    · simp only [Value.slice.injEq, Option.some.injEq, Addr.mk.injEq, and_true, true_and] at h'
      obtain ⟨rfl, rfl⟩ := h'
      exact ⟨cur, by simpa using hs, hg, hbg⟩
  have hgl := (Array.getElem?_eq_some_iff.1 hg).1
  by_cases h0 : n = 0
  · have hr := run_copy_none (P := Try.prog) xm 22 22 3 5 (some ⟨g, 0, none⟩) (some x) n n n cap Try.underlying22 size5 (by rw [h0]; rfl)
    obtain rfl : X = [] := List.eq_nil_of_length_eq_zero (by omega)
    subst h0
    exact ⟨xm, hr, .inr ⟨g, 0, 0, rfl, Nat.le_refl _, hgl, fun j hj => by simp at hj⟩, hb, Below.refl _ _⟩
  · have hr := run_copy_row (P := Try.prog) xm 22 22 3 5 g 0 n n x n cap cur 5 (X.map (Value.int .u8)) Try.underlying22 size5 hg (min_of hX) (hsrc xm hb) (by simp; omega) (ints_oneCell _ _)
    have e : (X.map (Value.int .u8)).length = n := by simpa using hX
    rw [e] at hr
    have hd : cur.toList.drop (0 + n) = [] := List.drop_eq_nil_of_le (by simp; omega)
    rw [hd] at hr
    simp only [List.take_zero, List.nil_append, List.append_nil] at hr
    have hh := setRow_heap xm g cur (X.map (Value.int .u8)).toArray 5 _ hg
    refine ⟨_, hr, .inr ⟨g, 0, n, by rw [hX], by omega, (Array.getElem?_eq_some_iff.1 hh).1, fun j hj => ?_⟩, below_setRow hb hbg _, below_setRow (Below.refl _ _) (Nat.le_refl _) _⟩
    rw [Nat.zero_add, cell_of_row _ g j _ 5 (0, 0) hh]
    simp [List.getD, hj]

theorem wf_nonneg {zs : List Int} {len : Nat} (h : ∀ n ∈ zs, (Lit.int .u8 n).wf = true) : ∀ n ∈ zs.take len, 0 ≤ n := by
  intro n hn
  have := bounds_u8 (h n (List.mem_of_mem_take hn))
  omega

theorem esc_max {S : List Int} (h : S.length ≤ 524288) : (1 :: (esc S ++ [0])).length ≤ maxLen := by
  have := esc_le S
  unfold maxLen
  simp
  omega

theorem below_end {w wr wp wq : World} {q r : Nat} (h : Below w.heap.size w wr) (hp : Below (wr.drewN q).heap.size (wr.drewN q) wp) (hq : Below wp.heap.size wp wq) : Below w.heap.size w (wq.drewN r) := by
  have h1 : Below w.heap.size w (wr.drewN q) := h.trans ⟨rfl, rfl, rfl, Nat.le_refl _, fun _ _ => rfl⟩
  have h2 := h1.trans (hp.mono h1.size)
  have h3 := h2.trans (hq.mono h2.size)
  exact h3.trans ⟨rfl, rfl, rfl, Nat.le_refl _, fun _ _ => rfl⟩

theorem below_made {w wr wm : World} (h : Below w.heap.size w wr) (hg : wr.grownBy wm none) : Below w.heap.size w wm := h.grown hg h.size (fun k h => by cases h)

theorem below_copy {wr wm wc : World} (hg : wr.grownBy wm none) (h : Below wr.heap.size wm wc) : Below wr.heap.size wr wc := (below_made (Below.refl _ _) hg).trans h

set_option maxHeartbeats 1000000 in
theorem walk (a0 : Option Addr) (len0 cap0 : Nat) (z0 : List Int) (a1 : Option Addr) (len1 cap1 : Nat) (z1 : List Int) (w : World) (w0 : IsRow .u8 w a0 len0 cap0 z0) (w1 : IsRow .u8 w a1 len1 cap1 z1) :
    Calls Try.prog 3 #[.slice a0 len0 cap0, .slice a1 len1 cap1] w fun e w' => e = .returned (.bool true) ∧ Below w.heap.size w w' := by
  have m0 : len0 ≤ maxLen := by rcases w0 with ⟨_, rfl, _⟩ | ⟨x, _, hl, hm, _⟩ <;> omega
  have m1 : len1 ≤ maxLen := by rcases w1 with ⟨_, rfl, _⟩ | ⟨x, _, hl, hm, _⟩ <;> omega
  have hne := fun (wx : World) (a : Option Addr) (n c : Nat) => run_neq_slice_nil_any (P := Try.prog) wx 22 5 a n c 0 0 Try.underlying22
  obtain ⟨i0, hi, hz0, hz1, hz2⟩ := info_parts info5
  go_enter Try.func3, Try.ntmps3
  go_wp2_with fail
  refine (small_any _ _ _ _ _ _ _ m0 m1).mono ?_
  rintro e w' ⟨⟨b, rfl⟩, rfl⟩
  cases b
  · go_wp2_with fail
    go_ret
    exact ⟨rfl, Below.refl _ _⟩
  by_cases k0 : len0 ≤ 524288
  · by_cases k1 : len1 ≤ 524288
    · rcases w0 with ⟨rfl, rfl, rfl, rfl⟩ | ⟨x, rfl, hl, hm, hz, hcell, hwz⟩
      · have nn0 : ∀ n ∈ ([] : List Int), 0 ≤ n := fun n hn => by cases hn
        rcases w1 with ⟨rfl, rfl, rfl, rfl⟩ | ⟨x1, rfl, hl1, hm1, hz1', hcell1, hwz1⟩
        · have nn1 : ∀ n ∈ ([] : List Int), 0 ≤ n := nn0
          go_wp2_with fail
          refine (cmp_rd (x := []) (y := []) (.inl ⟨rfl, rfl⟩) (.inl ⟨rfl, rfl⟩) (Nat.zero_le _) (Nat.zero_le _)).mono ?_
          rintro e wc ⟨rfl, qc, rfl⟩
          go_wp2_with fail
          refine (pack_rd (S := []) (Rd.drewN (.inl ⟨rfl, rfl⟩) qc) (Nat.zero_le _)).mono ?_
          rintro e wp ⟨vp, rfl, hp, bp⟩
          go_wp2_with fail
          refine (pack_rd (S := []) ((Rd.drewN (.inl ⟨rfl, rfl⟩) qc).below bp) (Nat.zero_le _)).mono ?_
          rintro e wq ⟨vq, rfl, hq, bq⟩
          go_wp2_with fail
          refine (cmp_rd (hp.below bq) hq (esc_max (Nat.zero_le _)) (esc_max (Nat.zero_le _))).mono ?_
          rintro e wd ⟨rfl, qd, rfl⟩
          have E : (cmp (1 :: (esc ([]) ++ [0])) (1 :: (esc ([]) ++ [0])) == cmp ([]) ([])) = true := by rw [cmp_packed _ _ nn0 nn1]; simp
          go_wp2_with fail
          go_ret
          exact ⟨rfl, below_end (Below.refl _ _) bp bq⟩
        · obtain ⟨Y, hYd⟩ : ∃ Y, Y = z1.take len1 := ⟨_, rfl⟩
          have hXy : Y.length = len1 := by rw [hYd]; simp; omega
          have nn1 : ∀ n ∈ Y, 0 ≤ n := by rw [hYd]; exact wf_nonneg hwz1
          have HCy : Hid (∀ w1, Below w.heap.size w w1 → ∀ j v, (Y.map (Value.int .u8))[j]? = some v → w1.cell? (x1.add j) = some v) := fun w1 hb => by rw [hYd]; exact row_cells hcell1 hb
          clear hYd hwz1 hcell1 hz1'
          go_wp2_with (at_make; refine wpList_make_full _ rfl (.tmp 32) (.tmp 32) 22 rfl w.heap.size 5 i0 (.int .u8 0) 1 Try.underlying22 hi hz0 hz1 _ _ _ _ len1 rfl rfl rfl rfl (by rw [hz2]; omega) (by unfold maxLen; omega) ((Below.refl w.heap.size w).size) ?_; intro ym howny hgrowy; obtain ⟨yc, hruny, ry, beld, belh⟩ := copy_run (cap := cap1) ⟨_, howny⟩ hXy HCy.out (below_made (Below.refl w.heap.size w) hgrowy); clear howny hgrowy)
          refine (cmp_rd (x := []) (y := Y) (.inl ⟨rfl, rfl⟩) ry (Nat.zero_le _) (by rw [hXy]; exact m1)).mono ?_
          rintro e wc ⟨rfl, qc, rfl⟩
          go_wp2_with fail
          refine (pack_rd (S := []) (Rd.drewN (.inl ⟨rfl, rfl⟩) qc) (Nat.zero_le _)).mono ?_
          rintro e wp ⟨vp, rfl, hp, bp⟩
          go_wp2_with fail
          refine (pack_rd (S := Y) ((Rd.drewN ry qc).below bp) (by rw [hXy]; omega)).mono ?_
          rintro e wq ⟨vq, rfl, hq, bq⟩
          go_wp2_with fail
          refine (cmp_rd (hp.below bq) hq (esc_max (Nat.zero_le _)) (esc_max (by rw [hXy]; omega))).mono ?_
          rintro e wd ⟨rfl, qd, rfl⟩
          have E : (cmp (1 :: (esc ([]) ++ [0])) (1 :: (esc (Y) ++ [0])) == cmp ([]) (Y)) = true := by rw [cmp_packed _ _ nn0 nn1]; simp
          go_wp2_with fail
          go_ret
          exact ⟨rfl, below_end beld bp bq⟩
      · obtain ⟨X, hXd⟩ : ∃ X, X = z0.take len0 := ⟨_, rfl⟩
        have hXx : X.length = len0 := by rw [hXd]; simp; omega
        have nn0 : ∀ n ∈ X, 0 ≤ n := by rw [hXd]; exact wf_nonneg hwz
        have HCx : Hid (∀ w1, Below w.heap.size w w1 → ∀ j v, (X.map (Value.int .u8))[j]? = some v → w1.cell? (x.add j) = some v) := fun w1 hb => by rw [hXd]; exact row_cells hcell hb
        clear hXd hwz hcell hz
        rcases w1 with ⟨rfl, rfl, rfl, rfl⟩ | ⟨x1, rfl, hl1, hm1, hz1', hcell1, hwz1⟩
        · have nn1 : ∀ n ∈ ([] : List Int), 0 ≤ n := fun n hn => by cases hn
          go_wp2_with (at_make; refine wpList_make_full _ rfl (.tmp 23) (.tmp 23) 22 rfl w.heap.size 5 i0 (.int .u8 0) 1 Try.underlying22 hi hz0 hz1 _ _ _ _ len0 rfl rfl rfl rfl (by rw [hz2]; omega) (by unfold maxLen; omega) (Nat.le_refl _) ?_; intro xm hownx hgrowx; obtain ⟨xc, hrunx, rx, belc, belg⟩ := copy_run (cap := cap0) ⟨_, hownx⟩ hXx HCx.out (below_made (Below.refl _ _) hgrowx); clear hownx hgrowx)
          refine (cmp_rd (x := X) (y := []) rx (.inl ⟨rfl, rfl⟩) (by rw [hXx]; exact m0) (Nat.zero_le _)).mono ?_
          rintro e wc ⟨rfl, qc, rfl⟩
          go_wp2_with fail
          refine (pack_rd (S := X) (Rd.drewN rx qc) (by rw [hXx]; omega)).mono ?_
          rintro e wp ⟨vp, rfl, hp, bp⟩
          go_wp2_with fail
          refine (pack_rd (S := []) ((Rd.drewN (.inl ⟨rfl, rfl⟩) qc).below bp) (Nat.zero_le _)).mono ?_
          rintro e wq ⟨vq, rfl, hq, bq⟩
          go_wp2_with fail
          refine (cmp_rd (hp.below bq) hq (esc_max (by rw [hXx]; omega)) (esc_max (Nat.zero_le _))).mono ?_
          rintro e wd ⟨rfl, qd, rfl⟩
          have E : (cmp (1 :: (esc (X) ++ [0])) (1 :: (esc ([]) ++ [0])) == cmp (X) ([])) = true := by rw [cmp_packed _ _ nn0 nn1]; simp
          go_wp2_with fail
          go_ret
          exact ⟨rfl, below_end belc bp bq⟩
        · obtain ⟨Y, hYd⟩ : ∃ Y, Y = z1.take len1 := ⟨_, rfl⟩
          have hXy : Y.length = len1 := by rw [hYd]; simp; omega
          have nn1 : ∀ n ∈ Y, 0 ≤ n := by rw [hYd]; exact wf_nonneg hwz1
          have HCy : Hid (∀ w1, Below w.heap.size w w1 → ∀ j v, (Y.map (Value.int .u8))[j]? = some v → w1.cell? (x1.add j) = some v) := fun w1 hb => by rw [hYd]; exact row_cells hcell1 hb
          clear hYd hwz1 hcell1 hz1'
          go_wp2_with (first
            | (at_make; refine wpList_make_full _ rfl (.tmp 23) (.tmp 23) 22 rfl w.heap.size 5 i0 (.int .u8 0) 1 Try.underlying22 hi hz0 hz1 _ _ _ _ len0 rfl rfl rfl rfl (by rw [hz2]; omega) (by unfold maxLen; omega) (Nat.le_refl _) ?_; intro xm hownx hgrowx; obtain ⟨xc, hrunx, rx, belc, belg⟩ := copy_run (cap := cap0) ⟨_, hownx⟩ hXx HCx.out (below_made (Below.refl _ _) hgrowx); clear hownx hgrowx)
            | (at_make; refine wpList_make_full _ rfl (.tmp 32) (.tmp 32) 22 rfl w.heap.size 5 i0 (.int .u8 0) 1 Try.underlying22 hi hz0 hz1 _ _ _ _ len1 rfl rfl rfl rfl (by rw [hz2]; omega) (by unfold maxLen; omega) (belc.size) ?_; intro ym howny hgrowy; obtain ⟨yc, hruny, ry, beld, belh⟩ := copy_run (cap := cap1) ⟨_, howny⟩ hXy HCy.out (below_made belc hgrowy); obtain rx2 := rx.below (below_copy hgrowy belh); clear howny hgrowy))
          refine (cmp_rd (x := X) (y := Y) rx2 ry (by rw [hXx]; exact m0) (by rw [hXy]; exact m1)).mono ?_
          rintro e wc ⟨rfl, qc, rfl⟩
          go_wp2_with fail
          refine (pack_rd (S := X) (Rd.drewN rx2 qc) (by rw [hXx]; omega)).mono ?_
          rintro e wp ⟨vp, rfl, hp, bp⟩
          go_wp2_with fail
          refine (pack_rd (S := Y) ((Rd.drewN ry qc).below bp) (by rw [hXy]; omega)).mono ?_
          rintro e wq ⟨vq, rfl, hq, bq⟩
          go_wp2_with fail
          refine (cmp_rd (hp.below bq) hq (esc_max (by rw [hXx]; omega)) (esc_max (by rw [hXy]; omega))).mono ?_
          rintro e wd ⟨rfl, qd, rfl⟩
          have E : (cmp (1 :: (esc (X) ++ [0])) (1 :: (esc (Y) ++ [0])) == cmp (X) (Y)) = true := by rw [cmp_packed _ _ nn0 nn1]; simp
          go_wp2_with fail
          go_ret
          exact ⟨rfl, below_end beld bp bq⟩
    · have : ¬ len1 ≤ 524288 := k1
      go_wp2_with fail
      go_ret
      exact ⟨rfl, Below.refl _ _⟩
  · go_wp2_with fail
    go_ret
    exact ⟨rfl, Below.refl _ _⟩

/-! ### THE ROW's STEP: WRITTEN OUT: LEAVE IT -/
set_option maxRecDepth 100000 in
theorem lifted (os : Os) (started : os.Started) (H : Type) (enc : TypeId × Value → H) :
    ReturnsInHanded {} Try.checked os 3 .any (Rows.fnAppendBytesKeepsByteOrderSpec.pre6 enc Try.prog Try.f3 Rows.fnAppendBytesKeepsByteOrderRow.domain false) (Rows.fnAppendBytesKeepsByteOrderSpec.post enc Try.prog Try.f3 false true false false) := by
  refine returnsInHanded_of_change (C := Try.checked) own started (by kernel_rfl) Try.func3
    (ChangeSpec.witness6 (enc := enc) (C := Try.checked) false ⟨#[], #[.slice none 0 0, .slice none 0 0], []⟩ 8 (by kernel_rfl) (by kernel_rfl) (by kernel_rfl) (by kernel_rfl)) ?_
  intro W base args ds gs before hval0 hW hcnd _
  have hval : ∀ (j : Nat) t v, Try.f3.params[j]? = some t → args[j]? = some v → Value.okWide Try.prog W .any base t v := hval0
  have hW' := hW
  obtain ⟨p, q, hA0, hV, rfl, hfz, hnd⟩ := hW
  have hA : DataW.TrodAll enc Try.prog W 0 (fun _ => true) true Try.f3.params.toList args.toList ds p := hA0
  rw [Try.params3] at hA hval
  obtain ⟨v0, vs0, d0, ds0, p0, q0, hargs, rfl, rfl, h0, r0⟩ := trodAll_cons hA
  obtain ⟨v1, vs1, d1, ds1, p1, q1, rfl, rfl, rfl, h1, r1⟩ := trodAll_cons r0
  obtain ⟨rfl, rfl, rfl⟩ := trodAll_nil r1
  obtain rfl : args = #[v0, v1] := by cases args; simp_all
  obtain ⟨rfl, rfl⟩ := trodVars_none hV
  obtain ⟨a0, len0, cap0, rfl⟩ := okWide_slice Try.underlying22 (hval 0 22 v0 rfl rfl)
  have k0 := h0
  have lt0 : ∀ x ∈ p0, x.block < W.heap.size := by obtain ⟨m, hm⟩ := k0; exact DataW.trod_lt m _ _ _ hm
  obtain ⟨z0, w0⟩ : ∃ zs, IsRow .u8 W a0 len0 cap0 zs := by
    obtain ⟨fuel, hf⟩ := h0
    rcases open_ints Try.underlying22 Try.underlying5 (by kernel_rfl) hf with ⟨hcs, _⟩ | ⟨x, l, c, zs, hcs, _, hl, hm, hz, _, hcell, hwz⟩
    · simp [Value.cells] at hcs
      obtain ⟨rfl, rfl, rfl⟩ := hcs
      exact ⟨[], .inl ⟨rfl, rfl, rfl, rfl⟩⟩
    · simp [Value.cells] at hcs
      obtain ⟨rfl, rfl, rfl⟩ := hcs
      exact ⟨zs, .inr ⟨_, rfl, hl, hm, by simpa using hz, hcell, hwz⟩⟩
  obtain ⟨a1, len1, cap1, rfl⟩ := okWide_slice Try.underlying22 (hval 1 22 v1 rfl rfl)
  have k1 := h1
  have lt1 : ∀ x ∈ p1, x.block < W.heap.size := by obtain ⟨m, hm⟩ := k1; exact DataW.trod_lt m _ _ _ hm
  obtain ⟨z1, w1⟩ : ∃ zs, IsRow .u8 W a1 len1 cap1 zs := by
    obtain ⟨fuel, hf⟩ := h1
    rcases open_ints Try.underlying22 Try.underlying5 (by kernel_rfl) hf with ⟨hcs, _⟩ | ⟨x, l, c, zs, hcs, _, hl, hm, hz, _, hcell, hwz⟩
    · simp [Value.cells] at hcs
      obtain ⟨rfl, rfl, rfl⟩ := hcs
      exact ⟨[], .inl ⟨rfl, rfl, rfl, rfl⟩⟩
    · simp [Value.cells] at hcs
      obtain ⟨rfl, rfl, rfl⟩ := hcs
      exact ⟨zs, .inr ⟨_, rfl, hl, hm, by simpa using hz, hcell, hwz⟩⟩
  clear hA0 hval0
  refine (walk a0 len0 cap0 z0 a1 len1 cap1 z1 W w0 w1).mono fun e W' ⟨he, bel⟩ => ?_
  subst he
  exact ⟨_, rfl, _, _, _, [], _, [], hW', trodAll_mk1 (shut_bool Try.underlying4 _), (trodAll_cons_mk (Below.trod laidOut (by kernel_rfl) (of_decide_eq_true (by kernel_rfl)) k0 bel lt0) (trodAll_cons_mk (Below.trod laidOut (by kernel_rfl) (of_decide_eq_true (by kernel_rfl)) k1 bel lt1) trodAll_mk0)), rfl, bel.frame _, fun h => by cases h⟩

theorem over : Rows.fnAppendBytesKeepsByteOrderRow.holds Try.pinned (OpenSpec.ofChange Rows.fnAppendBytesKeepsByteOrderSpec) :=
  OpenClaim.holds_of_wide 3 Try.f3 rfl rfl rfl rfl rfl rfl rfl ⟨rfl, rfl, rfl, rfl, rfl⟩ rfl rfl rfl rfl rfl (by kernel_rfl) Try.func3 (by kernel_rfl)
    (of_decide_eq_true (by kernel_rfl)) (by unfold Func.isWrapper; first | (rw [if_pos (by decide +kernel)]; kernel_rfl) | (rw [if_neg (by decide +kernel)]; exact ⟨rfl, rfl⟩))
    (fun os started H enc _ => lifted os started H enc)

/-- ████ THE STATEMENT ████ -/
theorem proved : Rows.FnAppendBytesKeepsByteOrderSaid := over
#print axioms proved
end Go.Proofs.Qxb6616517a.fnAppendBytesKeepsByteOrder
