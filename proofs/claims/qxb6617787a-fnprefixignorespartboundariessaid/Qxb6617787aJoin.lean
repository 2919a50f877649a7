/-
  THE WALK of zzTextJoin (6).
-/
import Derived.Test.Qxb6617787aSmall
namespace Go.Proofs.Qxb6617787a
open Go.RowKit

/-- The row of the join behind 'a' bytes. -/
def mix (J : List UInt8) (a : Nat) : List Value := (Lib.byteCells J).take a ++ (List.replicate J.length (Value.int .u8 0)).drop a

theorem mix_zero (J : List UInt8) : mix J 0 = List.replicate J.length (Value.int .u8 0) := by simp [mix]
theorem mix_end (J : List UInt8) : mix J J.length = Lib.byteCells J := by
  unfold mix
  rw [List.take_of_length_le (by rw [byteCells_length]; exact Nat.le_refl _), List.drop_eq_nil_of_le (by simp), List.append_nil]
theorem mix_length (J : List UInt8) (a : Nat) (h : a ≤ J.length) : (mix J a).length = J.length := by
  simp [mix, byteCells_length]; omega
theorem mix_set (J : List UInt8) (a : Nat) (h : a < J.length) : (mix J a).set a (.int .u8 (J.getD a 0).toNat) = mix J (a + 1) := by
  unfold mix
  have hb : a < (Lib.byteCells J).length := by rw [byteCells_length]; exact h
  have hr : a < (List.replicate J.length (Value.int .u8 0)).length := by simpa using h
  rw [List.set_append_right _ _ (by simp; omega)]
  have e : a - ((Lib.byteCells J).take a).length = 0 := by simp; omega
  rw [e, List.drop_eq_getElem_cons hr, List.set_cons_zero, List.take_succ_eq_append_getElem hb, List.append_assoc]
  congr 2
  simp [Lib.byteCells, List.getD, h]

/-- A byte of part k, in the join. -/
theorem flat_at (PS : List (List UInt8)) : ∀ (k j : Nat), k < PS.length → j < (PS.getD k []).length → sm PS k + j < PS.flatten.length ∧ PS.flatten.getD (sm PS k + j) 0 = (PS.getD k []).getD j 0 := by
  induction PS with
  | nil => intro k j h; simp at h
  | cons S R ih =>
    intro k j hk hj
    cases k with
    | zero =>
      have hj' : j < S.length := by simpa using hj
      refine ⟨by simp [sm]; omega, ?_⟩
      simp [sm, List.getD, List.getElem?_append_left hj']
    | succ k =>
      have hj' : j < (R.getD k []).length := by simpa using hj
      obtain ⟨h1, h2⟩ := ih k j (by simpa using hk) hj'
      have e : sm (S :: R) (k + 1) = S.length + sm R k := by simp [sm]
      rw [e]
      refine ⟨by rw [List.flatten_cons, List.length_append]; omega, ?_⟩
      rw [List.flatten_cons]
      have e2 : (S ++ R.flatten).getD (S.length + sm R k + j) 0 = R.flatten.getD (sm R k + j) 0 := by
        simp only [List.getD]
        rw [List.getElem?_append_right (by omega)]
        congr 2
        omega
      rw [e2, h2]
      simp

/-- The cells of a part of at least one byte. -/
theorem Part.cells {w : World} {a : Option Addr} {n c : Nat} {S : List UInt8} (h : Part w (.slice a n c) S) (hn : 0 < n) : ∃ b off, a = some ⟨b, off, none⟩ ∧ b < w.heap.size ∧ ∀ j, j < n → w.cell? ⟨b, off + j, none⟩ = some (.int .u8 (S.getD j 0).toNat) := by
  obtain ⟨a', c', hv, hc, hm, hnn, hcell⟩ := h
  simp only [Value.slice.injEq] at hv
  obtain ⟨rfl, rfl, rfl⟩ := hv
  cases a with
  | none => have := hnn.1 rfl; omega
  | some x =>
    obtain ⟨b, off, spot⟩ := x
    have e : ∀ j, j < S.length → (Lib.byteCells S)[j]? = some (.int .u8 (S.getD j 0).toNat) := fun j hj => by simp [Lib.byteCells, List.getD, hj]
    have h0 := hcell _ rfl 0 _ (e 0 hn)
    have hspot : spot = none := by simpa [Addr.add] using World.cell?_spot h0
    subst hspot
    refine ⟨b, off, rfl, by simpa [Addr.add_lit] using World.block_lt_of_cell? _ _ h0, fun j hj => ?_⟩
    have := hcell _ rfl j _ (e j hj)
    rwa [Addr.add_lit] at this

theorem own_mix {w : World} {B g T : Nat} {J : List UInt8} {a : Nat} (h : w.ownsRow B 5 1 (.slice (some ⟨g, 0, none⟩) T T) T (mix J a)) (hT : J.length = T) (ha : a < T) :
    (∃ v, w.cell? ⟨g, a, none⟩ = some v) ∧ w.frozen? ⟨g, a, none⟩ = false ∧ (w.setCell ⟨g, a, none⟩ (.int .u8 (J.getD a 0).toNat)).ownsRow B 5 1 (.slice (some ⟨g, 0, none⟩) T T) T (mix J (a + 1)) := by
  refine ⟨?_, h.frozenAt a, ?_⟩
  · have h1 := h.cellAt a (by omega)
    have hl : a < (mix J a).length := by rw [mix_length J a (by omega)]; omega
    rw [List.getElem?_eq_getElem hl] at h1
    exact ⟨_, h1⟩
  · have := (h.stored a (.int .u8 (J.getD a 0).toNat)).1
    rw [mix_set J a (by omega)] at this
    exact this

set_option maxHeartbeats 1000000 in
theorem join_any (oa : Option Addr) (np oc T : Nat) (PS : List (List UInt8)) (w : World) (hP : Parts w (.slice oa np oc) PS) (hT : PS.flatten.length = T) (hsum : np + T ≤ 1048576) :
    Calls Try.prog 6 #[.slice oa np oc] w fun e w' => e = .returned (.slice (some ⟨w.heap.size, 0, none⟩) T T) ∧ w'.ownsRow w.heap.size 5 1 (.slice (some ⟨w.heap.size, 0, none⟩) T T) T (Lib.byteCells PS.flatten) ∧ Below w.heap.size w w' := by
  obtain ⟨i0, hi, hz0, hz1, hz2⟩ := info_parts info5
  have hnp := (parts_len hP).1
  have HP := hide hP
  have HNP := hide hnp
  obtain ⟨J, hJ⟩ : ∃ J, PS.flatten = J := ⟨_, rfl⟩
  rw [hJ] at hT ⊢
  have HJ := hide hJ
  have HT := hide hT
  clear hP hnp hT hJ
  go_enter Try.func6, Try.ntmps6
  go_wp2
  go_loop [3, 4] (fun vz vi => ∃ (k z : Nat), k ≤ np ∧ vi = .int .i64 k ∧ vz = .int .i64 z ∧ z ≤ T ∧ Hid (z = sm PS k)) (fun _ vi => np - (intOf vi).toNat)
  case atStart => exact ⟨0, 0, Nat.zero_le _, rfl, rfl, Nat.zero_le _, (sm_zero PS).symm⟩
  case round =>
    obtain ⟨k, z, hk, rfl, rfl, hzT, hz⟩ := hrel
    by_cases hlt : k < np
    · obtain ⟨ob, oo, pa, pn, pc, rfl, g, hpn, hpart⟩ := (unhide HP).at k hlt
      have hsu : z + pn = sm PS (k + 1) := by rw [sm_succ PS k (by rw [← unhide HNP]; exact hlt), unhide hz, ← hpn]
      have hle : z + pn ≤ T := by
        have := sm_le PS (k + 1)
        rw [unhide HJ, unhide HT] at this
        omega
      have HSU := hide hsu
      clear hpn hpart hsu
      have hi : (k : Int) < (np : Int) := by omega
      go_wp2
      go_round
      case rel => exact ⟨k + 1, z + pn, by omega, by go_num, by go_num, hle, HSU⟩
      case measure => simp [intOf]; omega
    · obtain rfl : k = np := by omega
      obtain rfl : z = T := by
        have h := unhide hz
        have h2 := sm_end PS
        rw [unhide HJ, unhide HT, ← unhide HNP] at h2
        omega
      clear hz
      go_wp2_with (at_make; refine wpList_make_full _ rfl (.tmp 23) (.tmp 23) 25 rfl w.heap.size 5 i0 (.int .u8 0) 1 Try.underlying25 hi hz0 hz1 _ _ _ _ z rfl rfl rfl rfl (by rw [hz2]; omega) (by unfold maxLen; omega) (Nat.le_refl _) ?_; intro w1 hown1 hgrow1)
      have hm0 : w1.ownsRow w.heap.size 5 1 (.slice (some ⟨w.heap.size, 0, none⟩) z z) z (mix J 0) := by
        rw [mix_zero, unhide HT]
        have e : (madeCells (Value.int .u8 0).cells (z * 1)).toList = List.replicate z (Value.int .u8 0) := by
          rw [Nat.mul_one]; exact toList_madeCells_one _ _
        rw [e] at hown1
        exact hown1
      have b1 : Below w.heap.size w w1 := (Below.refl _ _).grown hgrow1 (Nat.le_refl _) (fun k h => by cases h)
      clear hown1 hgrow1
      go_loopw [6, 7, 8, 9] (fun va vi _ _ wr => ∃ r a : Nat, r ≤ k ∧ vi = .int .i64 r ∧ va = .int .i64 a ∧ a ≤ z ∧ Hid (a = sm PS r) ∧ wr.ownsRow w.heap.size 5 1 (.slice (some ⟨w.heap.size, 0, none⟩) z z) z (mix J a) ∧ Below w.heap.size w wr) (fun _ vi _ _ _ => k - (intOf vi).toNat)
      case atStart => exact ⟨0, 0, Nat.zero_le _, rfl, rfl, Nat.zero_le _, (sm_zero PS).symm, hm0, b1⟩
      case round =>
        obtain ⟨r, a, hr, rfl, rfl, haz, ha, hown, hb⟩ := hrel
        clear hm0 b1
        by_cases hlt2 : r < k
        · obtain ⟨ob, oo, pa, pn, pc, rfl, g0, hpn, hpart⟩ := (unhide HP).at r hlt2
          have hob : ob < w.heap.size := World.block_lt_of_cell? _ _ g0
          have g : wr.cell? ⟨ob, oo + r, none⟩ = some (.slice pa pn pc) := (hb.cell (by exact hob)).trans g0
          have hi2 : (r : Int) < (k : Int) := by omega
          have hrl : r < PS.length := by rw [← unhide HNP]; exact hlt2
          have hsu : a + pn = sm PS (r + 1) := by rw [sm_succ PS r hrl, unhide ha, ← hpn]
          have hle : a + pn ≤ z := by
            have := sm_le PS (r + 1)
            rw [unhide HJ, unhide HT] at this
            omega
          have HSU := hide hsu
          have HPart := hide hpart
          have HRL := hide hrl
          have HPN := hide hpn
          clear hsu hpart hrl hpn g0
          go_wp2
          go_loopw [6, 9] (fun va vj ws => ∃ j : Nat, j ≤ pn ∧ vj = .int .i64 j ∧ va = .int .i64 ((a + j : Nat) : Int) ∧ ws.ownsRow w.heap.size 5 1 (.slice (some ⟨w.heap.size, 0, none⟩) z z) z (mix J (a + j)) ∧ Below w.heap.size w ws) (fun _ vj _ => pn - (intOf vj).toNat)
          case atStart => exact ⟨0, Nat.zero_le _, rfl, rfl, hown, hb⟩
          case round =>
            obtain ⟨j, hj, rfl, rfl, hown', hb'⟩ := hrel
            clear hown hb g
            by_cases hlt3 : j < pn
            · obtain ⟨pb, po, rfl, hpb, hcells⟩ := (unhide HPart).cells (by omega)
              have gj : wr.cell? ⟨pb, po + j, none⟩ = some (.int .u8 ((PS.getD r []).getD j 0).toNat) := (hb'.cell (by exact hpb)).trans (hcells j hlt3)
              have hf := (flat_at PS r j (unhide HRL) (by rw [← unhide HPN]; exact hlt3)).2
              rw [← unhide ha, unhide HJ] at hf
              rw [← hf] at gj
              obtain ⟨⟨v, hv⟩, hfz, hown2⟩ := own_mix hown' (unhide HT) (by omega)
              have bb := hb'.setCell (p := ⟨w.heap.size, a + j, none⟩) (Nat.le_refl _) (.int .u8 (J.getD (a + j) 0).toNat)
              obtain ⟨u, hu⟩ : ∃ u : Int, ((J.getD (a + j) 0).toNat : Int) = u := ⟨_, rfl⟩
              rw [hu] at gj hown2 bb
              clear hf hcells hu hown'
              have hi3 : (j : Int) < (pn : Int) := by omega
              have hi4 : ((a + j : Nat) : Int) < (z : Int) := by omega
              have haj : a + j < z := by omega
              go_wp2
              go_roundw
              case rel => exact ⟨j + 1, by omega, by go_num, by go_num, hown2, bb⟩
              case measure => simp [intOf]; omega
            · obtain rfl : j = pn := by omega
              go_wp2
              go_roundw
              case rel => exact ⟨r + 1, a + j, by omega, by go_num, rfl, hle, HSU, hown', hb'⟩
              case measure => simp [intOf]; omega
        · obtain rfl : r = k := by omega
          have e : a = z := by
            have h := unhide ha
            have h2 := sm_end PS
            rw [unhide HJ, unhide HT, ← unhide HNP] at h2
            omega
          subst e
          have hfin : wr.ownsRow w.heap.size 5 1 (.slice (some ⟨w.heap.size, 0, none⟩) a a) a (Lib.byteCells J) := by
            have h := mix_end J
            rw [unhide HT] at h
            rw [h] at hown
            exact hown
          clear hown
          go_wp2
          go_ret
          exact ⟨rfl, hfin, hb⟩

/-- The join as a part. -/
theorem own_part {w : World} {B g T : Nat} {J : List UInt8} (h : w.ownsRow B 5 1 (.slice (some ⟨g, 0, none⟩) T T) T (Lib.byteCells J)) (hT : J.length = T) (hm : T ≤ maxLen) : Part w (.slice (some ⟨g, 0, none⟩) T T) J := by
  refine ⟨some ⟨g, 0, none⟩, T, by rw [hT], by omega, hm, ⟨(fun hh => by cases hh), fun _ => ⟨g, 0, rfl⟩⟩, fun x hx j u hu => ?_⟩
  cases hx
  exact h.cells (g := g) rfl j u hu

end Go.Proofs.Qxb6617787a
