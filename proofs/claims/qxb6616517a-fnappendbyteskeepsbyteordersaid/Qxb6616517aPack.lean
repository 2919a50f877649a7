/-
  THE CONTRACTS of zzCompareBytes (5) and tuple.AppendBytes (6) over whatever slice of bytes reads: 'Rd'.
-/
import Derived.Test.Qxb6616517aEsc
import Derived.Deep.DeepFit
namespace Go.Proofs.Qxb6616517a
open Go.RowKit
open Plain

/-- The slice value v reads as the bytes S in the world w: it is nil and S empty; or its cells lie there. -/
def Rd (w : World) (v : Value) (S : List Int) : Prop :=
  (v = .slice none 0 0 ∧ S = []) ∨ ∃ g o c, v = .slice (some ⟨g, o, none⟩) S.length c ∧ S.length ≤ c ∧ g < w.heap.size ∧ ∀ j, j < S.length → w.cell? ⟨g, o + j, none⟩ = some (.int .u8 (S.getD j 0))

theorem Rd.below {w w' : World} {v : Value} {S : List Int} (h : Rd w v S) (hb : Below w.heap.size w w') : Rd w' v S := by
  rcases h with h | ⟨g, o, c, hv, hc, hg, hcell⟩
  · exact .inl h
  · exact .inr ⟨g, o, c, hv, hc, Nat.lt_of_lt_of_le hg hb.size, fun j hj => (hb.cell (by exact hg)).trans (hcell j hj)⟩

theorem Rd.drewN {w : World} {v : Value} {S : List Int} (h : Rd w v S) (q : Nat) : Rd (w.drewN q) v S := by
  rcases h with h | ⟨g, o, c, hv, hc, hg, hcell⟩
  · exact .inl h
  · exact .inr ⟨g, o, c, hv, hc, hg, hcell⟩

theorem Rd.ofOwns {w : World} {B : Nat} {v : Value} {S : List Int} (h : w.ownsRow B 5 1 v S.length (S.map (Value.int .u8))) : Rd w v S := by
  rcases h.2 with ⟨rfl, h0⟩ | ⟨g, cap, cur, rfl, hb, hg, hn, hm, hs, ht⟩
  · exact .inl ⟨rfl, List.eq_nil_of_length_eq_zero h0⟩
  · refine .inr ⟨g, 0, cap, rfl, hn, (Array.getElem?_eq_some_iff.1 hg).1, fun j hj => ?_⟩
    have := h.cellAt j (by omega)
    rw [Nat.zero_add, this]
    simp [List.getD, hj]

set_option maxHeartbeats 400000 in
theorem cmp_zero (a0 : Option Addr) (n0 c0 : Nat) (a1 : Option Addr) (n1 c1 : Nat) (x y : List Int) (w : World) (hx : x.length = n0) (hy : y.length = n1) (m0 : n0 ≤ maxLen) (m1 : n1 ≤ maxLen) (hz : n0 = 0 ∨ n1 = 0) :
    Calls Try.prog 5 #[.slice a0 n0 c0, .slice a1 n1 c1] w fun e w' => e = .returned (.int .i64 (cmp x y)) ∧ ∃ q, w' = w.drewN q := by
  unfold maxLen at m0 m1
  by_cases h0 : n0 = 0
  · subst h0
    obtain rfl : x = [] := List.eq_nil_of_length_eq_zero hx
    by_cases h1 : n1 = 0
    · subst h1
      obtain rfl : y = [] := List.eq_nil_of_length_eq_zero hy
      go_enter Try.func5, Try.ntmps5
      go_wp2
      go_loop [6] (fun i => i = .int .i64 0) (fun _ => 0)
      case atStart => rfl
      case round =>
        obtain rfl := hrel
        go_wp2
        go_ret
        exact ⟨rfl, 0, rfl⟩
    · have e : cmp [] y = -1 := by
        match y, hy with
        | [], hy => simp at hy; omega
        | _ :: _, _ => rfl
      have E : Hid (cmp [] y = -1) := e
      clear e
      have h1' : 0 < n1 := by omega
      go_enter Try.func5, Try.ntmps5
      go_wp2
      go_loop [6] (fun i => i = .int .i64 0) (fun _ => 0)
      case atStart => rfl
      case round =>
        obtain rfl := hrel
        go_wp2
        go_ret
        exact ⟨ret_int E.out.symm, 0, rfl⟩
  · have h1 : n1 = 0 := by omega
    subst h1
    obtain rfl : y = [] := List.eq_nil_of_length_eq_zero hy
    have e : cmp x [] = 1 := by
      match x, hx with
      | [], hx => simp at hx; omega
      | _ :: _, _ => rfl
    have E : Hid (cmp x [] = 1) := e
    clear e
    have h0' : 0 < n0 := by omega
    go_enter Try.func5, Try.ntmps5
    go_wp2
    go_loop [6] (fun i => i = .int .i64 0) (fun _ => 0)
    case atStart => rfl
    case round =>
      obtain rfl := hrel
      go_wp2
      go_ret
      exact ⟨ret_int E.out.symm, 0, rfl⟩

theorem cmp_rd {w : World} {v0 v1 : Value} {x y : List Int} (h0 : Rd w v0 x) (h1 : Rd w v1 y) (m0 : x.length ≤ maxLen) (m1 : y.length ≤ maxLen) :
    Calls Try.prog 5 #[v0, v1] w fun e w' => e = .returned (.int .i64 (cmp x y)) ∧ ∃ q, w' = w.drewN q := by
  rcases h0 with ⟨rfl, rfl⟩ | ⟨g, o, c, rfl, hc, hg, hcell⟩
  · rcases h1 with ⟨rfl, rfl⟩ | ⟨g', o', c', rfl, hc', hg', hcell'⟩
    · exact cmp_zero none 0 0 none 0 0 [] [] w rfl rfl m0 m1 (.inl rfl)
    · exact cmp_zero none 0 0 _ _ _ [] y w rfl rfl m0 m1 (.inl rfl)
  · rcases h1 with ⟨rfl, rfl⟩ | ⟨g', o', c', rfl, hc', hg', hcell'⟩
    · exact cmp_zero _ _ _ none 0 0 x [] w rfl rfl m0 m1 (.inr rfl)
    · exact cmp_some g o _ c g' o' _ c' x y w rfl rfl m0 m1 hcell hcell'

theorem esc_rd {w : World} {B : Nat} {v s : Value} {pre S : List Int} (hB : B ≤ w.heap.size) (hpre : pre.length ≤ 16) (hown : w.ownsRow B 5 1 v pre.length (pre.map (Value.int .u8)))
    (wb : World) (hs : Rd wb s S) (hwb : wb.heap.size = B) (hbel : Below B wb w) (hS : S.length ≤ 524288) :
    Calls Try.prog 7 #[v, s] w fun e w' => ∃ v', e = .returned v' ∧ ∃ L, Hid (L = pre ++ (esc S ++ [0])) ∧ w'.ownsRow B 5 1 v' L.length (L.map (Value.int .u8)) ∧ Below B w w' := by
  rcases hs with ⟨rfl, rfl⟩ | ⟨g, o, c, rfl, hc, hg, hcell⟩
  · exact esc_nil B v pre w hB hpre hown
  · exact esc_some B v pre g o _ c S w hB (by omega) rfl hc hS hpre hown (fun t ht => (hbel.cell (by show g < B; omega)).trans (hcell t ht))

set_option maxHeartbeats 400000 in
theorem pack_rd {w : World} {s : Value} {S : List Int} (hs : Rd w s S) (hS : S.length ≤ 524288) :
    Calls Try.prog 6 #[.slice none 0 0, s] w fun e w' => ∃ v', e = .returned v' ∧ Rd w' v' (1 :: (esc S ++ [0])) ∧ Below w.heap.size w w' := by
  obtain ⟨i0, hi, hz0, hz1, hz2⟩ := info_parts info5
  go_enter Try.func6, Try.ntmps6
  go_wp2_with (first
    | (at_builtin; refine wpList_append_own _ rfl (.tmp 5) (.tmp 6) 22 rfl w.heap.size 5 i0 (.int .u8 0) 1 1 Try.underlying22 hi hz0 hz1 hz2 rfl (by decide) (.slice none 0 0) 0 [] rfl (World.ownsRow_nil _ _ _ _) ⟨w.heap.size, 0, none⟩ 1 1 [.int .u8 1] rfl rfl (one_cell _ _ _) (ints_oneCell _ [1]) (by unfold maxLen; omega) (by omega) (by simp) ?_; intro v1 w1 hown1 hgrow1 _)
    | (go_at_call 7; refine (esc_rd (B := w.heap.size) (pre := [1]) (by have := hgrow1.size; simp at this; omega) (by simp) (by simpa using hown1) w hs rfl (((Below.refl _ _).alloc (Nat.le_refl _) _).grown hgrow1 (by simp) (fun k hk => by cases hk)) hS).mono ?_; rintro e w2 ⟨v2, rfl, L, hL, hown2, hb2⟩))
  go_ret
  refine ⟨v2, rfl, ?_, ?_⟩
  · have := Rd.ofOwns hown2
    rw [hL.out] at this
    exact this
  · exact (((Below.refl _ _).alloc (Nat.le_refl _) _).grown hgrow1 (by simp) (fun k hk => by cases hk)).trans hb2

end Go.Proofs.Qxb6616517a
