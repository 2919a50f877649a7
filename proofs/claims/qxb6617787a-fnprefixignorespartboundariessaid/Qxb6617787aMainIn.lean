/-
  THE WALK of FnPrefixIgnoresPartBoundaries (3), where i names a part and k a place in it.
-/
import Derived.Test.Qxb6617787aInv
namespace Go.Proofs.Qxb6617787a
open Go.RowKit

set_option maxHeartbeats 2000000 in
set_option maxRecDepth 100000 in
theorem main_in (oa : Option Addr) (np oc T m ii kk : Nat) (tn tmax : Int) (PS : List (List UInt8)) (w : World) (hP : Parts w (.slice oa np oc) PS) (hT : PS.flatten.length = T) (hm : m ≤ 65536) (hii : ii < np) (hkk : kk ≤ (PS.getD ii []).length) :
    Calls Try.prog 3 #[.slice oa np oc, .int .i64 tn, .int .i64 tmax, .int .i64 (m : Int), .int .i64 (ii : Int), .int .i64 (kk : Int)] w fun e w' => e = .returned (.bool true) ∧ Below w.heap.size w w' := by
  obtain ⟨i0, hi, hz0, hz1, hz2⟩ := info_parts info25
  have hnp := (parts_len hP).1
  have HP := hide hP
  have HNP := hide hnp
  have HT := hide hT
  obtain ⟨J, hJ⟩ : ∃ J, PS.flatten = J := ⟨_, rfl⟩
  obtain ⟨s, hs⟩ : ∃ s : ByteArray, s = ⟨(J.take m).toArray⟩ := ⟨_, rfl⟩
  have hJT : J.length = T := by rw [← hJ]; exact hT
  have HJ := hide hJ
  have HS := hide hs
  have HJT := hide hJT
  obtain ⟨ob, oo, rfl, hob, hrow⟩ := hP.rows (by omega)
  have HR := hide hrow
  obtain ⟨pa0, pn0, pc0, g0, hpn0, _⟩ := hrow ii hii
  have hk0 : kk ≤ pn0 := by rw [hpn0]; exact hkk
  have HPN0 := hide hpn0
  clear hP hnp hT hkk hJ hs hJT hrow hpn0
  go_enter Try.func3, Try.ntmps3
  go_wp2_with fail
  refine (bytes_any _ np oc T _ _ _ _ _ PS _ (unhide HP) (unhide HT)).mono ?_
  rintro e w' ⟨⟨b, rfl, hb⟩, rfl⟩
  cases b
  · go_wp2_with fail
    go_ret
    exact ⟨rfl, Below.refl _ _⟩
  have hsum := hb rfl
  clear hb
  go_wp2_with fail
  refine (big_any _ np oc PS _ (unhide HP) (by rw [unhide HT]; exact hsum)).mono ?_
  rintro e w' ⟨⟨b, rfl, hb⟩, rfl⟩
  clear hb
  cases b
  · go_wp2_with fail
    refine (join_any _ np oc T PS _ (unhide HP) (unhide HT) hsum).mono ?_
    rintro e w1 ⟨rfl, hownj, b1⟩
    have HJP : Hid (Part w1 (.slice (some ⟨w.heap.size, 0, none⟩) T T) J) := own_part (by rw [← unhide HJ]; exact hownj) (unhide HJT) (by unfold maxLen; omega)
    clear hownj
    go_wp2_with (at_make; refine wpList_make_own _ rfl _ _ 22 rfl w1.heap.size 25 i0 (.slice none 0 0) 1 Try.underlying22 hi hz0 hz1 _ _ _ (np + 1) rfl rfl (by omega) (by rw [hz2]; omega) (by unfold maxLen; omega) (Nat.le_refl _) ?_; intro w2 hown2 hgrow2; have b2 : Below w1.heap.size w1 w2 := (Below.refl _ _).grown hgrow2 (Nat.le_refl _) (fun k h => by cases h); have g2 : w2.cell? ⟨ob, oo + ii, none⟩ = some (.slice pa0 pn0 pc0) := ((bt b1 b2).cell (by exact hob)).trans g0; clear hgrow2 g0)
    go_loopw [14, 15, 16] (fun vs vj _ wr => ∃ (j ms : Nat) (V : List Value) (PS' : List (List UInt8)), j ≤ np ∧ vj = .int .i64 j ∧ vs = .slice (some ⟨w1.heap.size, 0, none⟩) ms (np + 1) ∧ ms ≤ j + 1 ∧ (j ≤ ii → ms ≤ j) ∧ wr.ownsRow w1.heap.size 25 1 (.slice (some ⟨w1.heap.size, 0, none⟩) ms (np + 1)) ms V ∧ PL w V PS' ∧ Hid (PS'.flatten = (PS.take j).flatten) ∧ Below w1.heap.size w1 wr) (fun _ vj _ _ => np - (intOf vj).toNat)
    case atStart => exact ⟨0, 0, [], [], Nat.zero_le _, rfl, rfl, Nat.zero_le _, fun _ => Nat.le_refl _, hown2, trivial, rfl, b2⟩
    case round =>
      obtain ⟨j, ms, V, PS', hj, rfl, rfl, hms, hmi, hown, hpl, hfl, hb⟩ := hrel
      clear hown2 b2 g2
      have hsz := hb.size
      by_cases hlt : j < np
      · obtain ⟨pa, pn, pc, g0, hpn, hpart⟩ := unhide HR j hlt
        have g : wr.cell? ⟨ob, oo + j, none⟩ = some (.slice pa pn pc) := ((bt b1 hb).cell (by exact hob)).trans g0
        have hjl : j < PS.length := by rw [← unhide HNP]; exact hlt
        have HJL := hide hjl
        have HPart := hide hpart
        have hi1 : (j : Int) < (np : Int) := by omega
        have hpm := part_len hpart
        unfold maxLen at hpm
        by_cases hji : j = ii
        · have hkp : kk ≤ pn := by rw [hpn, hji, ← unhide HPN0]; exact hk0
          have hkc : pn ≤ pc := by obtain ⟨_, _, hv, h1, _⟩ := hpart; simp only [Value.slice.injEq] at hv; omega
          have hmi' : ms ≤ j := hmi (by omega)
          have eji : ((j : Int) == (ii : Int)) = true := by simp; omega
          have HH := hide (hpart.head kk hkp)
          have HTL := hide (hpart.tail kk hkp)
          have hpc : 0 < pc → ∃ b off, pa = some ⟨b, off, none⟩ := by
            obtain ⟨_, _, hv, _, _, hn, _⟩ := hpart
            simp only [Value.slice.injEq] at hv
            obtain ⟨rfl, _, rfl⟩ := hv
            exact hn.2
          have HJI := hide hji
          clear hpn hpart g0 hjl hji hmi
          by_cases hck : pc = kk
          · rw [if_pos hck] at HTL
            have HH' : Hid (Part w (.slice pa kk kk) ((PS.getD j []).take kk)) := by
              have h := unhide HH
              rw [hck] at h
              exact h
            have HTL' : Hid (Part w (.slice pa (pn - kk) 0) ((PS.getD j []).drop kk)) := by
              have h := unhide HTL
              rw [hck, Nat.sub_self] at h
              exact h
            clear HH HTL
            go_wp2_with (first
              | (at_builtin; refine wpList_append_fits _ rfl (.tmp 78) (.tmp 82) 22 rfl w1.heap.size 25 i0 1 Try.underlying22 hi hz1 w1.heap.size ms (np + 1) V rfl (hown.alloc _) ⟨wr.heap.size, 0, none⟩ 1 1 [_] rfl rfl (one_cell _ _ _) (slice_one _ _ _) (by omega) ?_; intro w3 hown3 hgrow3)
              | (at_builtin; refine wpList_append_fits _ rfl (.tmp 84) (.tmp 88) 22 rfl w1.heap.size 25 i0 1 Try.underlying22 hi hz1 w1.heap.size (ms + 1) (np + 1) _ rfl (hown3.alloc _) ⟨w3.heap.size, 0, none⟩ 1 1 [_] rfl rfl (one_cell _ _ _) (slice_one _ _ _) (by omega) ?_; intro w4 hown4 hgrow4))
            have bb := below_app (below_app hb hgrow3) hgrow4
            have ff := flat_cut (k := kk) (unhide hfl) (unhide HJL)
            have pp := (hpl.snoc (unhide HH')).snoc (unhide HTL')
            have hne : ¬ j + 1 ≤ ii := by have := unhide HJI; omega
            clear hown hown3 hgrow3 hgrow4 hb hfl
            go_roundw
            case rel => exact ⟨j + 1, ms + 1 + 1, _, _, by omega, by go_num, rfl, by omega, fun h => absurd h hne, hown4, pp, ff, bb⟩
            case measure => simp [intOf]; omega
          · obtain ⟨pb, po, rfl⟩ := hpc (by omega)
            rw [if_neg hck] at HTL
            have HH' := HH
            have HTL' : Hid (Part w (.slice (some ⟨pb, po + kk, none⟩) (pn - kk) (pc - kk)) ((PS.getD j []).drop kk)) := by
              have h := unhide HTL
              rw [Nat.mul_one] at h
              simp only [Option.map_some, Addr.add_lit] at h
              exact h
            clear HH HTL hpc
            go_wp2_with (first
              | (at_builtin; refine wpList_append_fits _ rfl (.tmp 78) (.tmp 82) 22 rfl w1.heap.size 25 i0 1 Try.underlying22 hi hz1 w1.heap.size ms (np + 1) V rfl (hown.alloc _) ⟨wr.heap.size, 0, none⟩ 1 1 [_] rfl rfl (one_cell _ _ _) (slice_one _ _ _) (by omega) ?_; intro w3 hown3 hgrow3)
              | (at_builtin; refine wpList_append_fits _ rfl (.tmp 84) (.tmp 88) 22 rfl w1.heap.size 25 i0 1 Try.underlying22 hi hz1 w1.heap.size (ms + 1) (np + 1) _ rfl (hown3.alloc _) ⟨w3.heap.size, 0, none⟩ 1 1 [_] rfl rfl (one_cell _ _ _) (slice_one _ _ _) (by omega) ?_; intro w4 hown4 hgrow4))
            have bb := below_app (below_app hb hgrow3) hgrow4
            have ff := flat_cut (k := kk) (unhide hfl) (unhide HJL)
            have pp := (hpl.snoc (unhide HH')).snoc (unhide HTL')
            have hne : ¬ j + 1 ≤ ii := by have := unhide HJI; omega
            clear hown hown3 hgrow3 hgrow4 hb hfl
            go_roundw
            case rel => exact ⟨j + 1, ms + 1 + 1, _, _, by omega, by go_num, rfl, by omega, fun h => absurd h hne, hown4, pp, ff, bb⟩
            case measure => simp [intOf]; omega
        · have eji : ((j : Int) == (ii : Int)) = false := by simp; omega
          clear hpn hpart g0 hjl
          go_wp2_with (at_builtin; refine wpList_append_fits _ rfl (.tmp 90) (.tmp 95) 22 rfl w1.heap.size 25 i0 1 Try.underlying22 hi hz1 w1.heap.size ms (np + 1) V rfl (hown.alloc _) ⟨wr.heap.size, 0, none⟩ 1 1 [_] rfl rfl (one_cell _ _ _) (slice_one _ _ _) (by omega) ?_; intro w3 hown3 hgrow3)
          have bb := below_app hb hgrow3
          have ff := flat_snoc (unhide hfl) (unhide HJL)
          have pp := hpl.snoc (unhide HPart)
          clear hown hgrow3 hb hfl
          go_roundw
          case rel => exact ⟨j + 1, ms + 1, _, _, by omega, by go_num, rfl, by omega, fun h => by have := hmi (by omega); omega, hown3, pp, ff, bb⟩
          case measure => simp [intOf]; omega
      · obtain rfl : j = np := by omega
        have HF : Hid (PS'.flatten = J) := by
          have h := unhide hfl
          have e : PS.take j = PS := List.take_of_length_le (by rw [← unhide HNP]; exact Nat.le_refl _)
          rw [e, unhide HJ] at h
          exact h
        clear hfl HR hk0 HPN0 hmi
        have hinv : Inv w (.slice (some ⟨ob, oo, none⟩) j oc) (.slice (some ⟨w1.heap.size, 0, none⟩) ms (j + 1)) (.slice (some ⟨wr.heap.size, 0, none⟩) 1 1) (.slice (some ⟨w.heap.size, 0, none⟩) T T) PS PS' J (wr.alloc (.cells #[.slice (some ⟨w.heap.size, 0, none⟩) T T] 25)) := by
          have bl : Below wr.heap.size wr (wr.alloc (.cells #[.slice (some ⟨w.heap.size, 0, none⟩) T T] 25)) := (Below.refl _ _).alloc (Nat.le_refl _) _
          have bw := bt b1 hb
          exact ⟨((unhide HP).below bw).below bl, (own_parts hown (hpl.below bw)).2.below bl, one_parts ((unhide HJP).below hb), ((unhide HJP).below hb).below bl, bt bw bl⟩
        have HI := hide hinv
        clear hinv hown hpl hb b1
        go_wp2_with fail
        refine (zznew _ _ _ _ _ _).mono ?_
        rintro e W1 ⟨rfl, q1, bb1⟩
        rw [World.size_alloc] at q1
        have HI1 := hide ((unhide HI).step bb1)
        clear HI bb1
        go_wp2_with fail
        refine (pfx_is (wr.heap.size + 1) m _ _ _ PS J s _ q1 (unhide HI1).1 hm (by omega) (unhide HJ) (unhide HS)).mono ?_
        rintro e W2 ⟨rfl, bb2⟩
        have HI2 := hide ((unhide HI1).step bb2)
        clear HI1 bb2 q1
        go_wp2_with fail
        refine (zznew _ _ _ _ _ _).mono ?_
        rintro e W3 ⟨rfl, q3, bb3⟩
        have HI3 := hide ((unhide HI2).step bb3)
        clear HI2 bb3
        go_wp2_with fail
        refine (pfx_is _ m _ _ _ PS' J s _ q3 (unhide HI3).2.1 hm (by omega) (unhide HF) (unhide HS)).mono ?_
        rintro e W4 ⟨rfl, bb4⟩
        have HI4 := hide ((unhide HI3).step bb4)
        clear HI3 bb4 q3
        go_wp2_with fail
        refine (zznew _ _ _ _ _ _).mono ?_
        rintro e W5 ⟨rfl, q5, bb5⟩
        have HI5 := hide ((unhide HI4).step bb5)
        clear HI4 bb5
        go_wp2_with fail
        refine (pfx_is _ m _ _ _ [J] J s _ q5 (unhide HI5).2.2.1 hm (by omega) (by simp) (unhide HS)).mono ?_
        rintro e W6 ⟨rfl, bb6⟩
        have HI6 := hide ((unhide HI5).step bb6)
        clear HI5 bb6 q5
        go_wp2_with fail
        refine (min_any m T _).mono ?_
        rintro e W7 ⟨rfl, rfl⟩
        go_wp2_with fail
        refine (head_any w.heap.size T m J s _ (unhide HS) (unhide HI6).2.2.2.1 (unhide HJT) (by omega)).mono ?_
        rintro e W8 ⟨rfl, q, rfl⟩
        go_wp2_with fail
        go_ret
        exact ⟨rfl, (unhide HI6).2.2.2.2.trans ⟨rfl, rfl, rfl, Nat.le_refl _, fun _ _ => rfl⟩⟩
  · go_wp2_with fail
    go_ret
    exact ⟨rfl, Below.refl _ _⟩

end Go.Proofs.Qxb6617787a
