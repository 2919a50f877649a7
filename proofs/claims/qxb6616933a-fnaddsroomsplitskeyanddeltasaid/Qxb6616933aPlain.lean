/-
  THE PLAIN LAWS of the seat: no Go in sight. 'ul': how many bytes a uvarint takes; 'zig': the number that a signed varint writes; 'vl': the law's own count for it.
-/
namespace Go.Proofs.Qxb6616933a.Plain

def ul (x : Int) : Int :=
  if x < 128 then 1 else if x < 16384 then 2 else if x < 2097152 then 3 else if x < 268435456 then 4 else if x < 34359738368 then 5 else
  if x < 4398046511104 then 6 else if x < 562949953421312 then 7 else if x < 72057594037927936 then 8 else if x < 9223372036854775808 then 9 else 10

theorem ul_bd (x : Int) : 1 ≤ ul x ∧ ul x ≤ 10 := by
  unfold ul
  repeat' split
  all_goals omega

/-- What is left behind k rounds lies below this. -/
def lim (k : Nat) : Int := 2 ^ (64 - 7 * k)

theorem lim_step (k : Nat) (hk : k ≤ 9) (X : Int) (h : X < lim k) (h128 : 128 ≤ X) : k ≤ 8 ∧ X / 128 < lim (k + 1) := by
  have : k = 0 ∨ k = 1 ∨ k = 2 ∨ k = 3 ∨ k = 4 ∨ k = 5 ∨ k = 6 ∨ k = 7 ∨ k = 8 ∨ k = 9 := by omega
  rcases this with rfl | rfl | rfl | rfl | rfl | rfl | rfl | rfl | rfl | rfl <;> simp [lim] at h ⊢ <;> omega

theorem ul_step (X : Int) (h : X < 18446744073709551616) (h128 : 128 ≤ X) : ul X = 1 + ul (X / 128) := by
  have h1 : ¬ X < 128 := by omega
  unfold ul
  rw [if_neg h1]
  by_cases a : X < 16384
  · rw [if_pos a, if_pos (by omega)]; rfl
  rw [if_neg a, if_neg (by omega : ¬ X / 128 < 128)]
  by_cases a : X < 2097152
  · rw [if_pos a, if_pos (by omega)]; rfl
  rw [if_neg a, if_neg (by omega : ¬ X / 128 < 16384)]
  by_cases a : X < 268435456
  · rw [if_pos a, if_pos (by omega)]; rfl
  rw [if_neg a, if_neg (by omega : ¬ X / 128 < 2097152)]
  by_cases a : X < 34359738368
  · rw [if_pos a, if_pos (by omega)]; rfl
  rw [if_neg a, if_neg (by omega : ¬ X / 128 < 268435456)]
  by_cases a : X < 4398046511104
  · rw [if_pos a, if_pos (by omega)]; rfl
  rw [if_neg a, if_neg (by omega : ¬ X / 128 < 34359738368)]
  by_cases a : X < 562949953421312
  · rw [if_pos a, if_pos (by omega)]; rfl
  rw [if_neg a, if_neg (by omega : ¬ X / 128 < 4398046511104)]
  by_cases a : X < 72057594037927936
  · rw [if_pos a, if_pos (by omega)]; rfl
  rw [if_neg a, if_neg (by omega : ¬ X / 128 < 562949953421312)]
  by_cases a : X < 9223372036854775808
  · rw [if_pos a, if_pos (by omega)]; rfl
  rw [if_neg a, if_neg (by omega : ¬ X / 128 < 72057594037927936), if_pos (by omega)]
  rfl

theorem ul_last (X : Int) (h : X < 128) : ul X = 1 := by unfold ul; rw [if_pos h]

/-- The uvarint of a length below 2 to the 21. -/
theorem ul_len (n : Int) (h : n < 2097152) : ul n = if n < 128 then 1 else if n < 16384 then 2 else 3 := by
  unfold ul
  by_cases a : n < 128
  · rw [if_pos a, if_pos a]
  rw [if_neg a, if_neg a]
  by_cases b : n < 16384
  · rw [if_pos b, if_pos b]
  rw [if_neg b, if_neg b, if_pos h]

/-- One byte more of key. -/
theorem ul_grow (n : Int) (h0 : 0 ≤ n) (h : n ≤ 1048576) : ul (n + 1) = ul n + (if n + 1 = 128 ∨ n + 1 = 16384 then 1 else 0) := by
  rw [ul_len _ (by omega), ul_len _ (by omega)]
  repeat' split
  all_goals omega

theorem ul_cases (x : Int) : (x < 128 ∧ ul x = 1) ∨ (128 ≤ x ∧ x < 16384 ∧ ul x = 2) ∨ (16384 ≤ x ∧ x < 2097152 ∧ ul x = 3) ∨ (2097152 ≤ x ∧ x < 268435456 ∧ ul x = 4) ∨ (268435456 ≤ x ∧ x < 34359738368 ∧ ul x = 5) ∨ (34359738368 ≤ x ∧ x < 4398046511104 ∧ ul x = 6) ∨ (4398046511104 ≤ x ∧ x < 562949953421312 ∧ ul x = 7) ∨ (562949953421312 ≤ x ∧ x < 72057594037927936 ∧ ul x = 8) ∨ (72057594037927936 ≤ x ∧ x < 9223372036854775808 ∧ ul x = 9) ∨ (9223372036854775808 ≤ x ∧ ul x = 10) := by
  have e : ul x = (if x < 128 then 1 else if x < 16384 then 2 else if x < 2097152 then 3 else if x < 268435456 then 4 else if x < 34359738368 then 5 else if x < 4398046511104 then 6 else if x < 562949953421312 then 7 else if x < 72057594037927936 then 8 else if x < 9223372036854775808 then 9 else 10 : Int) := rfl
  by_cases a0 : x < 128
  · rw [if_pos a0] at e; exact .inl ⟨a0, e⟩
  rw [if_neg a0] at e
  by_cases a1 : x < 16384
  · rw [if_pos a1] at e; exact .inr (.inl ⟨by omega, a1, e⟩)
  rw [if_neg a1] at e
  by_cases a2 : x < 2097152
  · rw [if_pos a2] at e; exact .inr (.inr (.inl ⟨by omega, a2, e⟩))
  rw [if_neg a2] at e
  by_cases a3 : x < 268435456
  · rw [if_pos a3] at e; exact .inr (.inr (.inr (.inl ⟨by omega, a3, e⟩)))
  rw [if_neg a3] at e
  by_cases a4 : x < 34359738368
  · rw [if_pos a4] at e; exact .inr (.inr (.inr (.inr (.inl ⟨by omega, a4, e⟩))))
  rw [if_neg a4] at e
  by_cases a5 : x < 4398046511104
  · rw [if_pos a5] at e; exact .inr (.inr (.inr (.inr (.inr (.inl ⟨by omega, a5, e⟩)))))
  rw [if_neg a5] at e
  by_cases a6 : x < 562949953421312
  · rw [if_pos a6] at e; exact .inr (.inr (.inr (.inr (.inr (.inr (.inl ⟨by omega, a6, e⟩))))))
  rw [if_neg a6] at e
  by_cases a7 : x < 72057594037927936
  · rw [if_pos a7] at e; exact .inr (.inr (.inr (.inr (.inr (.inr (.inr (.inl ⟨by omega, a7, e⟩)))))))
  rw [if_neg a7] at e
  by_cases a8 : x < 9223372036854775808
  · rw [if_pos a8] at e; exact .inr (.inr (.inr (.inr (.inr (.inr (.inr (.inr (.inl ⟨by omega, a8, e⟩))))))))
  rw [if_neg a8] at e
  exact .inr (.inr (.inr (.inr (.inr (.inr (.inr (.inr (.inr (⟨by omega, e⟩)))))))))

theorem ul_same (x y : Int) (h : y = x + 1) (he : x % 2 = 0) : ul y = ul x := by
  rcases ul_cases x with ⟨a, e⟩ | ⟨a, b, e⟩ | ⟨a, b, e⟩ | ⟨a, b, e⟩ | ⟨a, b, e⟩ | ⟨a, b, e⟩ | ⟨a, b, e⟩ | ⟨a, b, e⟩ | ⟨a, b, e⟩ | ⟨a, e⟩ <;>
  rcases ul_cases y with ⟨a', e'⟩ | ⟨a', b', e'⟩ | ⟨a', b', e'⟩ | ⟨a', b', e'⟩ | ⟨a', b', e'⟩ | ⟨a', b', e'⟩ | ⟨a', b', e'⟩ | ⟨a', b', e'⟩ | ⟨a', b', e'⟩ | ⟨a', e'⟩ <;> omega

def zig (d : Int) : Int := if d < 0 then -2 * d - 1 else 2 * d

theorem zig_bd (d : Int) (h0 : -9223372036854775808 ≤ d) (h1 : d ≤ 9223372036854775807) : 0 ≤ zig d ∧ zig d < 18446744073709551616 := by
  unfold zig; split <;> omega

/-- The least m with -2^(7m-1) ≤ d < 2^(7m-1), or 10. -/
def fits (m : Nat) (d : Int) : Bool := decide (-(2 ^ (7 * m - 1)) ≤ d ∧ d < 2 ^ (7 * m - 1))

theorem zig_not (d : Int) : ul (zig (-d - 1)) = ul (zig d) := by
  by_cases hd : d < 0
  · have e1 : zig d = -2 * d - 1 := by unfold zig; rw [if_pos hd]
    have e2 : zig (-d - 1) = -2 * d - 2 := by unfold zig; rw [if_neg (by omega)]; omega
    rw [e1, e2]
    exact (ul_same _ _ (by omega) (by omega)).symm
  · have e1 : zig d = 2 * d := by unfold zig; rw [if_neg hd]
    have e2 : zig (-d - 1) = 2 * d + 1 := by unfold zig; rw [if_pos (by omega)]; omega
    rw [e1, e2]
    exact ul_same _ _ (by omega) (by omega)

theorem fits_lt (m : Nat) (h1 : 1 ≤ m) (h9 : m ≤ 9) (d : Int) : fits m d = true ↔ zig d < 2 ^ (7 * m) := by
  have : m = 1 ∨ m = 2 ∨ m = 3 ∨ m = 4 ∨ m = 5 ∨ m = 6 ∨ m = 7 ∨ m = 8 ∨ m = 9 := by omega
  by_cases hd : d < 0
  · have e1 : zig d = -2 * d - 1 := by unfold zig; rw [if_pos hd]
    rw [e1]
    rcases this with rfl | rfl | rfl | rfl | rfl | rfl | rfl | rfl | rfl <;> simp [fits] <;> omega
  · have e1 : zig d = 2 * d := by unfold zig; rw [if_neg hd]
    rw [e1]
    rcases this with rfl | rfl | rfl | rfl | rfl | rfl | rfl | rfl | rfl <;> simp [fits] <;> omega

theorem ul_lt (m : Nat) (h1 : 1 ≤ m) (h9 : m ≤ 9) (x : Int) : x < 2 ^ (7 * m) ↔ ul x ≤ m := by
  have : m = 1 ∨ m = 2 ∨ m = 3 ∨ m = 4 ∨ m = 5 ∨ m = 6 ∨ m = 7 ∨ m = 8 ∨ m = 9 := by omega
  rcases this with rfl | rfl | rfl | rfl | rfl | rfl | rfl | rfl | rfl <;> simp <;>
  rcases ul_cases x with ⟨a, e⟩ | ⟨a, b, e⟩ | ⟨a, b, e⟩ | ⟨a, b, e⟩ | ⟨a, b, e⟩ | ⟨a, b, e⟩ | ⟨a, b, e⟩ | ⟨a, b, e⟩ | ⟨a, b, e⟩ | ⟨a, e⟩ <;> omega

theorem fits_ul (m : Nat) (h1 : 1 ≤ m) (h9 : m ≤ 9) (d : Int) : fits m d = true ↔ ul (zig d) ≤ m := (fits_lt m h1 h9 d).trans (ul_lt m h1 h9 _)

end Go.Proofs.Qxb6616933a.Plain
