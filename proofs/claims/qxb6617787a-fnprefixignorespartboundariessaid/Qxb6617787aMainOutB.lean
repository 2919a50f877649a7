/-
  THE WALK of FnPrefixIgnoresPartBoundaries (3), where i names a part and k no place in it.
-/
import Derived.Test.Qxb6617787aInv
namespace Go.Proofs.Qxb6617787a
open Go.RowKit

set_option maxHeartbeats 2000000 in
set_option maxRecDepth 100000 in
theorem main_kneg (oa : Option Addr) (np oc T m : Nat) (tn tmax : Int) (ii : Nat) (k : Int) (PS : List (List UInt8)) (w : World) (hP : Parts w (.slice oa np oc) PS) (hT : PS.flatten.length = T) (hm : m ≤ 65536) (hii : ii < np) (hneg : k < 0) :
    Calls Try.prog 3 #[.slice oa np oc, .int .i64 tn, .int .i64 tmax, .int .i64 (m : Int), .int .i64 (ii : Int), .int .i64 k] w fun e w' => e = .returned (.bool true) ∧ Below w.heap.size w w' := by
  obtain ⟨i0, hi, hz0, hz1, hz2⟩ := info_parts info25
  have hnp := (parts_len hP).1
  have HP := hide hP
  have HNP := hide hnp
  have HT := hide hT
  obtain ⟨J, hJ⟩ : ∃ J, PS.flatten = J := ⟨_, rfl⟩
  obtain ⟨s, hs⟩ : ∃ s : ByteArray, s = ⟨(J.take m).toArray⟩ := ⟨_, rfl⟩
  have hJT : J.length = T := by rw [← hJ]; exact hT
  have HJ := hide hJ
  have HS := hide hs
  have HJT := hide hJT
  clear hP hnp hT hJ hs hJT
  go_enter Try.func3, Try.ntmps3
  go_wp2_with fail
  refine (bytes_any _ np oc T _ _ _ _ _ PS _ (unhide HP) (unhide HT)).mono ?_
  rintro e w' ⟨⟨b, rfl, hb⟩, rfl⟩
  cases b
  · go_wp2_with fail
    go_ret
    exact ⟨rfl, Below.refl _ _⟩
  have hsum := hb rfl
  clear hb
  go_wp2_with fail
  refine (big_any _ np oc PS _ (unhide HP) (by rw [unhide HT]; exact hsum)).mono ?_
  rintro e w' ⟨⟨b, rfl, hb⟩, rfl⟩
  clear hb
  cases b
  · go_wp2_with fail
    refine (join_any _ np oc T PS _ (unhide HP) (unhide HT) hsum).mono ?_
    rintro e w1 ⟨rfl, hownj, b1⟩
    have HJP : Hid (Part w1 (.slice (some ⟨w.heap.size, 0, none⟩) T T) J) := own_part (by rw [← unhide HJ]; exact hownj) (unhide HJT) (by unfold maxLen; omega)
    clear hownj
    go_wp2_with (first
      | (at_make; refine wpList_make_own _ rfl _ _ 22 rfl w1.heap.size 25 i0 (.slice none 0 0) 1 Try.underlying22 hi hz0 hz1 _ _ _ (np + 1) rfl rfl (by omega) (by rw [hz2]; omega) (by unfold maxLen; omega) (Nat.le_refl _) ?_; intro w2 hown2 hgrow2; have b2 : Below w1.heap.size w1 w2 := (Below.refl _ _).grown hgrow2 (Nat.le_refl _) (fun k h => by cases h); clear hgrow2)
      | (at_builtin; refine wpList_append_fits _ rfl (.tmp 97) (.tmp 98) 22 rfl w1.heap.size 25 i0 1 Try.underlying22 hi hz1 w1.heap.size 0 (np + 1) [] rfl (hown2.alloc _) ⟨w2.heap.size, 0, none⟩ 1 1 [_] rfl rfl (one_cell _ _ _) (slice_one _ _ _) (by omega) ?_; intro w3 hown3 hgrow3))
    have b3 := below_app b2 hgrow3
    clear hgrow3
    go_loopw [14, 17] (fun vs vj wr => ∃ (j : Nat) (V : List Value) (PS' : List (List UInt8)), j ≤ np ∧ vj = .int .i64 j ∧ vs = .slice (some ⟨w1.heap.size, 0, none⟩) (j + 1) (np + 1) ∧ wr.ownsRow w1.heap.size 25 1 (.slice (some ⟨w1.heap.size, 0, none⟩) (j + 1) (np + 1)) (j + 1) V ∧ PL w V PS' ∧ Hid (PS'.flatten = (PS.take j).flatten) ∧ Below w1.heap.size w1 wr) (fun _ vj _ => np - (intOf vj).toNat)
    case atStart => exact ⟨0, _, [[]], Nat.zero_le _, rfl, rfl, hown3, nil_pl w, rfl, b3⟩
    case round =>
      obtain ⟨j, V, PS', hj, rfl, rfl, hown, hpl, hfl, hb⟩ := hrel
      clear hown2 b2 hown3 b3
      have hsz := hb.size
      by_cases hlt : j < np
      · obtain ⟨ob, oo, pa, pn, pc, rfl, g0, hpn, hpart⟩ := (unhide HP).at j hlt
        have hob : ob < w.heap.size := World.block_lt_of_cell? _ _ g0
        have g : wr.cell? ⟨ob, oo + j, none⟩ = some (.slice pa pn pc) := ((bt b1 hb).cell (by exact hob)).trans g0
        have HJL : Hid (j < PS.length) := by
          show j < PS.length
          rw [← unhide HNP]; exact hlt
        have HPart := hide hpart
        have hi1 : (j : Int) < (np : Int) := by omega
        clear hpn hpart g0
        go_wp2_with (at_builtin; refine wpList_append_fits _ rfl (.tmp 106) (.tmp 111) 22 rfl w1.heap.size 25 i0 1 Try.underlying22 hi hz1 w1.heap.size (j + 1) (np + 1) V rfl (hown.alloc _) ⟨wr.heap.size, 0, none⟩ 1 1 [_] rfl rfl (one_cell _ _ _) (slice_one _ _ _) (by omega) ?_; intro w4 hown4 hgrow4)
        have bb := below_app hb hgrow4
        have ff := flat_snoc (unhide hfl) (unhide HJL)
        have pp := hpl.snoc (unhide HPart)
        clear hown hgrow4 hb hfl
        go_roundw
        case rel => exact ⟨j + 1, _, _, by omega, by go_num, rfl, hown4, pp, ff, bb⟩
        case measure => simp [intOf]; omega
      · obtain rfl : j = np := by omega
        have HF : Hid (PS'.flatten = J) := by
          have h := unhide hfl
          have e : PS.take j = PS := List.take_of_length_le (by rw [← unhide HNP]; exact Nat.le_refl _)
          rw [e, unhide HJ] at h
          exact h
        clear hfl
        have hinv : Inv w (.slice oa j oc) (.slice (some ⟨w1.heap.size, 0, none⟩) (j + 1) (j + 1)) (.slice (some ⟨wr.heap.size, 0, none⟩) 1 1) (.slice (some ⟨w.heap.size, 0, none⟩) T T) PS PS' J (wr.alloc (.cells #[.slice (some ⟨w.heap.size, 0, none⟩) T T] 25)) := by
          have bl : Below wr.heap.size wr (wr.alloc (.cells #[.slice (some ⟨w.heap.size, 0, none⟩) T T] 25)) := (Below.refl _ _).alloc (Nat.le_refl _) _
          have bw := bt b1 hb
          exact ⟨((unhide HP).below bw).below bl, (own_parts hown (hpl.below bw)).2.below bl, one_parts ((unhide HJP).below hb), ((unhide HJP).below hb).below bl, bt bw bl⟩
        have HI := hide hinv
        clear hinv hown hpl hb b1
        go_wp2_with fail
        refine (zznew _ _ _ _ _ _).mono ?_
        rintro e W1 ⟨rfl, q1, bb1⟩
        rw [World.size_alloc] at q1
        have HI1 := hide ((unhide HI).step bb1)
        clear HI bb1
        go_wp2_with fail
        refine (pfx_is (wr.heap.size + 1) m _ _ _ PS J s _ q1 (unhide HI1).1 hm (by omega) (unhide HJ) (unhide HS)).mono ?_
        rintro e W2 ⟨rfl, bb2⟩
        have HI2 := hide ((unhide HI1).step bb2)
        clear HI1 bb2 q1
        go_wp2_with fail
        refine (zznew _ _ _ _ _ _).mono ?_
        rintro e W3 ⟨rfl, q3, bb3⟩
        have HI3 := hide ((unhide HI2).step bb3)
        clear HI2 bb3
        go_wp2_with fail
        refine (pfx_is _ m _ _ _ PS' J s _ q3 (unhide HI3).2.1 hm (by omega) (unhide HF) (unhide HS)).mono ?_
        rintro e W4 ⟨rfl, bb4⟩
        have HI4 := hide ((unhide HI3).step bb4)
        clear HI3 bb4 q3
        go_wp2_with fail
        refine (zznew _ _ _ _ _ _).mono ?_
        rintro e W5 ⟨rfl, q5, bb5⟩
        have HI5 := hide ((unhide HI4).step bb5)
        clear HI4 bb5
        go_wp2_with fail
        refine (pfx_is _ m _ _ _ [J] J s _ q5 (unhide HI5).2.2.1 hm (by omega) (by simp) (unhide HS)).mono ?_
        rintro e W6 ⟨rfl, bb6⟩
        have HI6 := hide ((unhide HI5).step bb6)
        clear HI5 bb6 q5
        go_wp2_with fail
        refine (min_any m T _).mono ?_
        rintro e W7 ⟨rfl, rfl⟩
        go_wp2_with fail
        refine (head_any w.heap.size T m J s _ (unhide HS) (unhide HI6).2.2.2.1 (unhide HJT) (by omega)).mono ?_
        rintro e W8 ⟨rfl, q, rfl⟩
        go_wp2_with fail
        go_ret
        exact ⟨rfl, (unhide HI6).2.2.2.2.trans ⟨rfl, rfl, rfl, Nat.le_refl _, fun _ _ => rfl⟩⟩
  · go_wp2_with fail
    go_ret
    exact ⟨rfl, Below.refl _ _⟩

set_option maxHeartbeats 2000000 in
set_option maxRecDepth 100000 in
theorem main_kpast (oa : Option Addr) (np oc T m : Nat) (tn tmax : Int) (ii k : Nat) (PS : List (List UInt8)) (w : World) (hP : Parts w (.slice oa np oc) PS) (hT : PS.flatten.length = T) (hm : m ≤ 65536) (hii : ii < np) (hbig : (PS.getD ii []).length < k) :
    Calls Try.prog 3 #[.slice oa np oc, .int .i64 tn, .int .i64 tmax, .int .i64 (m : Int), .int .i64 (ii : Int), .int .i64 (k : Int)] w fun e w' => e = .returned (.bool true) ∧ Below w.heap.size w w' := by
  obtain ⟨i0, hi, hz0, hz1, hz2⟩ := info_parts info25
  have hnp := (parts_len hP).1
  have HP := hide hP
  have HNP := hide hnp
  have HT := hide hT
  obtain ⟨J, hJ⟩ : ∃ J, PS.flatten = J := ⟨_, rfl⟩
  obtain ⟨s, hs⟩ : ∃ s : ByteArray, s = ⟨(J.take m).toArray⟩ := ⟨_, rfl⟩
  have hJT : J.length = T := by rw [← hJ]; exact hT
  have HJ := hide hJ
  have HS := hide hs
  have HJT := hide hJT
  obtain ⟨qb, qo, rfl, hqb, hrow⟩ := hP.rows (by omega)
  obtain ⟨qa, qn, qc, q0, hqn, _⟩ := hrow ii hii
  have hq : qn < k := by rw [hqn]; exact hbig
  clear hP hnp hT hJ hs hJT hbig hrow hqn
  go_enter Try.func3, Try.ntmps3
  go_wp2_with fail
  refine (bytes_any _ np oc T _ _ _ _ _ PS _ (unhide HP) (unhide HT)).mono ?_
  rintro e w' ⟨⟨b, rfl, hb⟩, rfl⟩
  cases b
  · go_wp2_with fail
    go_ret
    exact ⟨rfl, Below.refl _ _⟩
  have hsum := hb rfl
  clear hb
  go_wp2_with fail
  refine (big_any _ np oc PS _ (unhide HP) (by rw [unhide HT]; exact hsum)).mono ?_
  rintro e w' ⟨⟨b, rfl, hb⟩, rfl⟩
  clear hb
  cases b
  · go_wp2_with fail
    refine (join_any _ np oc T PS _ (unhide HP) (unhide HT) hsum).mono ?_
    rintro e w1 ⟨rfl, hownj, b1⟩
    have HJP : Hid (Part w1 (.slice (some ⟨w.heap.size, 0, none⟩) T T) J) := own_part (by rw [← unhide HJ]; exact hownj) (unhide HJT) (by unfold maxLen; omega)
    clear hownj
    go_wp2_with (first
      | (at_make; refine wpList_make_own _ rfl _ _ 22 rfl w1.heap.size 25 i0 (.slice none 0 0) 1 Try.underlying22 hi hz0 hz1 _ _ _ (np + 1) rfl rfl (by omega) (by rw [hz2]; omega) (by unfold maxLen; omega) (Nat.le_refl _) ?_; intro w2 hown2 hgrow2; have b2 : Below w1.heap.size w1 w2 := (Below.refl _ _).grown hgrow2 (Nat.le_refl _) (fun k h => by cases h); have q2 : w2.cell? ⟨qb, qo + ii, none⟩ = some (.slice qa qn qc) := ((bt b1 b2).cell (by exact hqb)).trans q0; clear q0; clear hgrow2)
      | (at_builtin; refine wpList_append_fits _ rfl (.tmp 97) (.tmp 98) 22 rfl w1.heap.size 25 i0 1 Try.underlying22 hi hz1 w1.heap.size 0 (np + 1) [] rfl (hown2.alloc _) ⟨w2.heap.size, 0, none⟩ 1 1 [_] rfl rfl (one_cell _ _ _) (slice_one _ _ _) (by omega) ?_; intro w3 hown3 hgrow3))
    have b3 := below_app b2 hgrow3
    clear hgrow3
    clear q2
    go_loopw [14, 17] (fun vs vj wr => ∃ (j : Nat) (V : List Value) (PS' : List (List UInt8)), j ≤ np ∧ vj = .int .i64 j ∧ vs = .slice (some ⟨w1.heap.size, 0, none⟩) (j + 1) (np + 1) ∧ wr.ownsRow w1.heap.size 25 1 (.slice (some ⟨w1.heap.size, 0, none⟩) (j + 1) (np + 1)) (j + 1) V ∧ PL w V PS' ∧ Hid (PS'.flatten = (PS.take j).flatten) ∧ Below w1.heap.size w1 wr) (fun _ vj _ => np - (intOf vj).toNat)
    case atStart => exact ⟨0, _, [[]], Nat.zero_le _, rfl, rfl, hown3, nil_pl w, rfl, b3⟩
    case round =>
      obtain ⟨j, V, PS', hj, rfl, rfl, hown, hpl, hfl, hb⟩ := hrel
      clear hown2 b2 hown3 b3
      have hsz := hb.size
      by_cases hlt : j < np
      · obtain ⟨ob, oo, pa, pn, pc, hoo, g0, hpn, hpart⟩ := (unhide HP).at j hlt
        simp only [Option.some.injEq, Addr.mk.injEq] at hoo
        obtain ⟨rfl, rfl, _⟩ := hoo
        have hob : qb < w.heap.size := World.block_lt_of_cell? _ _ g0
        have g : wr.cell? ⟨qb, qo + j, none⟩ = some (.slice pa pn pc) := ((bt b1 hb).cell (by exact hob)).trans g0
        have HJL : Hid (j < PS.length) := by
          show j < PS.length
          rw [← unhide HNP]; exact hlt
        have HPart := hide hpart
        have hi1 : (j : Int) < (np : Int) := by omega
        clear hpn hpart g0
        go_wp2_with (at_builtin; refine wpList_append_fits _ rfl (.tmp 106) (.tmp 111) 22 rfl w1.heap.size 25 i0 1 Try.underlying22 hi hz1 w1.heap.size (j + 1) (np + 1) V rfl (hown.alloc _) ⟨wr.heap.size, 0, none⟩ 1 1 [_] rfl rfl (one_cell _ _ _) (slice_one _ _ _) (by omega) ?_; intro w4 hown4 hgrow4)
        have bb := below_app hb hgrow4
        have ff := flat_snoc (unhide hfl) (unhide HJL)
        have pp := hpl.snoc (unhide HPart)
        clear hown hgrow4 hb hfl
        go_roundw
        case rel => exact ⟨j + 1, _, _, by omega, by go_num, rfl, hown4, pp, ff, bb⟩
        case measure => simp [intOf]; omega
      · obtain rfl : j = np := by omega
        have HF : Hid (PS'.flatten = J) := by
          have h := unhide hfl
          have e : PS.take j = PS := List.take_of_length_le (by rw [← unhide HNP]; exact Nat.le_refl _)
          rw [e, unhide HJ] at h
          exact h
        clear hfl
        have hinv : Inv w (.slice (some ⟨qb, qo, none⟩) j oc) (.slice (some ⟨w1.heap.size, 0, none⟩) (j + 1) (j + 1)) (.slice (some ⟨wr.heap.size, 0, none⟩) 1 1) (.slice (some ⟨w.heap.size, 0, none⟩) T T) PS PS' J (wr.alloc (.cells #[.slice (some ⟨w.heap.size, 0, none⟩) T T] 25)) := by
          have bl : Below wr.heap.size wr (wr.alloc (.cells #[.slice (some ⟨w.heap.size, 0, none⟩) T T] 25)) := (Below.refl _ _).alloc (Nat.le_refl _) _
          have bw := bt b1 hb
          exact ⟨((unhide HP).below bw).below bl, (own_parts hown (hpl.below bw)).2.below bl, one_parts ((unhide HJP).below hb), ((unhide HJP).below hb).below bl, bt bw bl⟩
        have HI := hide hinv
        clear hinv hown hpl hb b1
        go_wp2_with fail
        refine (zznew _ _ _ _ _ _).mono ?_
        rintro e W1 ⟨rfl, q1, bb1⟩
        rw [World.size_alloc] at q1
        have HI1 := hide ((unhide HI).step bb1)
        clear HI bb1
        go_wp2_with fail
        refine (pfx_is (wr.heap.size + 1) m _ _ _ PS J s _ q1 (unhide HI1).1 hm (by omega) (unhide HJ) (unhide HS)).mono ?_
        rintro e W2 ⟨rfl, bb2⟩
        have HI2 := hide ((unhide HI1).step bb2)
        clear HI1 bb2 q1
        go_wp2_with fail
        refine (zznew _ _ _ _ _ _).mono ?_
        rintro e W3 ⟨rfl, q3, bb3⟩
        have HI3 := hide ((unhide HI2).step bb3)
        clear HI2 bb3
        go_wp2_with fail
        refine (pfx_is _ m _ _ _ PS' J s _ q3 (unhide HI3).2.1 hm (by omega) (unhide HF) (unhide HS)).mono ?_
        rintro e W4 ⟨rfl, bb4⟩
        have HI4 := hide ((unhide HI3).step bb4)
        clear HI3 bb4 q3
        go_wp2_with fail
        refine (zznew _ _ _ _ _ _).mono ?_
        rintro e W5 ⟨rfl, q5, bb5⟩
        have HI5 := hide ((unhide HI4).step bb5)
        clear HI4 bb5
        go_wp2_with fail
        refine (pfx_is _ m _ _ _ [J] J s _ q5 (unhide HI5).2.2.1 hm (by omega) (by simp) (unhide HS)).mono ?_
        rintro e W6 ⟨rfl, bb6⟩
        have HI6 := hide ((unhide HI5).step bb6)
        clear HI5 bb6 q5
        go_wp2_with fail
        refine (min_any m T _).mono ?_
        rintro e W7 ⟨rfl, rfl⟩
        go_wp2_with fail
        refine (head_any w.heap.size T m J s _ (unhide HS) (unhide HI6).2.2.2.1 (unhide HJT) (by omega)).mono ?_
        rintro e W8 ⟨rfl, q, rfl⟩
        go_wp2_with fail
        go_ret
        exact ⟨rfl, (unhide HI6).2.2.2.2.trans ⟨rfl, rfl, rfl, Nat.le_refl _, fun _ _ => rfl⟩⟩
  · go_wp2_with fail
    go_ret
    exact ⟨rfl, Below.refl _ _⟩

end Go.Proofs.Qxb6617787a
