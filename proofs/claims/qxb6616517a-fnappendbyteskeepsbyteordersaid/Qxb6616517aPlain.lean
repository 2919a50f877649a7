/-
  THE PLAIN LAW of the seat: no Go in sight. 'cmp': the byte order of two lists of numbers. 'esc': each 0 written as 0, 255.
-/
namespace Go.Proofs.Qxb6616517a.Plain

def cmp : List Int → List Int → Int
  | [], [] => 0
  | [], _ :: _ => -1
  | _ :: _, [] => 1
  | a :: x, b :: y => if a < b then -1 else if b < a then 1 else cmp x y

def esc : List Int → List Int
  | [] => []
  | c :: r => if c = 0 then 0 :: 255 :: esc r else c :: esc r

theorem cmp_esc (x : List Int) : ∀ y : List Int, (∀ n ∈ x, 0 ≤ n) → (∀ n ∈ y, 0 ≤ n) → cmp (esc x ++ [0]) (esc y ++ [0]) = cmp x y := by
  induction x with
  | nil =>
    intro y _ hy
    cases y with
    | nil => simp [esc, cmp]
    | cons b y =>
      have hb : 0 ≤ b := hy b (by simp)
      by_cases h : b = 0
      · simp [esc, h, cmp]
      · have : (0 : Int) < b := by omega
        simp [esc, h, cmp, this]
  | cons a x ih =>
    intro y hx hy
    have ha : 0 ≤ a := hx a (by simp)
    cases y with
    | nil =>
      by_cases h : a = 0
      · simp [esc, h, cmp]
      · have h1 : (0 : Int) < a := by omega
        have h2 : ¬ a < 0 := by omega
        simp [esc, h, cmp, h1, h2]
    | cons b y =>
      have hb : 0 ≤ b := hy b (by simp)
      have ih' := ih y (fun n hn => hx n (by simp [hn])) (fun n hn => hy n (by simp [hn]))
      by_cases h : a = 0
      · by_cases k : b = 0
        · simp [esc, h, k, cmp, ih']
        · have : (0 : Int) < b := by omega
          simp [esc, h, k, cmp, this]
      · by_cases k : b = 0
        · have h1 : (0 : Int) < a := by omega
          have h2 : ¬ a < 0 := by omega
          simp [esc, h, k, cmp, h1, h2]
        · simp [esc, h, k, cmp, ih']

/-- THE LAW: the packed forms compare as the byte strings do. -/
theorem cmp_packed (x y : List Int) (hx : ∀ n ∈ x, 0 ≤ n) (hy : ∀ n ∈ y, 0 ≤ n) : cmp (1 :: (esc x ++ [0])) (1 :: (esc y ++ [0])) = cmp x y := by
  simp [cmp, cmp_esc x y hx hy]

theorem esc_append (x y : List Int) : esc (x ++ y) = esc x ++ esc y := by
  induction x with
  | nil => simp [esc]
  | cons a x ih =>
    by_cases h : a = 0 <;> simp [esc, h, ih]

theorem esc_free (x : List Int) (h : ∀ n ∈ x, n ≠ 0) : esc x = x := by
  induction x with
  | nil => rfl
  | cons a x ih =>
    have ha : a ≠ 0 := h a (by simp)
    simp [esc, ha, ih (fun n hn => h n (by simp [hn]))]

theorem esc_le (x : List Int) : (esc x).length ≤ 2 * x.length := by
  induction x with
  | nil => simp [esc]
  | cons a x ih =>
    by_cases h : a = 0 <;> simp [esc, h] <;> omega

/-- One step of the comparison: equal heads at place k. -/
theorem cmp_step (x y : List Int) (k : Nat) (hx : k < x.length) (hy : k < y.length) (h1 : ¬ x.getD k 0 < y.getD k 0) (h2 : ¬ y.getD k 0 < x.getD k 0) : cmp (x.drop k) (y.drop k) = cmp (x.drop (k + 1)) (y.drop (k + 1)) := by
  rw [List.drop_eq_getElem_cons hx, List.drop_eq_getElem_cons hy]
  have e1 : x.getD k 0 = x[k] := by simp [List.getD, hx]
  have e2 : y.getD k 0 = y[k] := by simp [List.getD, hy]
  rw [e1, e2] at h1 h2
  simp [cmp, h1, h2]

theorem cmp_lt (x y : List Int) (k : Nat) (hx : k < x.length) (hy : k < y.length) (h1 : x.getD k 0 < y.getD k 0) : cmp (x.drop k) (y.drop k) = -1 := by
  rw [List.drop_eq_getElem_cons hx, List.drop_eq_getElem_cons hy]
  have e1 : x.getD k 0 = x[k] := by simp [List.getD, hx]
  have e2 : y.getD k 0 = y[k] := by simp [List.getD, hy]
  rw [e1, e2] at h1
  simp [cmp, h1]

theorem cmp_gt (x y : List Int) (k : Nat) (hx : k < x.length) (hy : k < y.length) (h1 : y.getD k 0 < x.getD k 0) : cmp (x.drop k) (y.drop k) = 1 := by
  rw [List.drop_eq_getElem_cons hx, List.drop_eq_getElem_cons hy]
  have e1 : x.getD k 0 = x[k] := by simp [List.getD, hx]
  have e2 : y.getD k 0 = y[k] := by simp [List.getD, hy]
  rw [e1, e2] at h1
  have h2 : ¬ x[k] < y[k] := by omega
  simp [cmp, h1, h2]

theorem cmp_end_lt (x y : List Int) (k : Nat) (hx : x.length ≤ k) (hy : k < y.length) : cmp (x.drop k) (y.drop k) = -1 := by
  rw [List.drop_eq_nil_of_le hx, List.drop_eq_getElem_cons hy]; rfl
theorem cmp_end_gt (x y : List Int) (k : Nat) (hx : k < x.length) (hy : y.length ≤ k) : cmp (x.drop k) (y.drop k) = 1 := by
  rw [List.drop_eq_nil_of_le hy, List.drop_eq_getElem_cons hx]; rfl
theorem cmp_end_eq (x y : List Int) (k : Nat) (hx : x.length ≤ k) (hy : y.length ≤ k) : cmp (x.drop k) (y.drop k) = 0 := by
  rw [List.drop_eq_nil_of_le hx, List.drop_eq_nil_of_le hy]; rfl

/-- At a zero at place k, the bytes before it back to place f free of zeros: the escape of the first k + 1. -/
theorem esc_hit (s : List Int) (f k : Nat) (hf : f ≤ k) (hk : k < s.length) (h0 : s.getD k 0 = 0) (hfree : ∀ j, f ≤ j → j < k → s.getD j 0 ≠ 0) :
    esc (s.take (k + 1)) = esc (s.take f) ++ ((s.take (k + 1)).drop f ++ [255]) := by
  have e1 : s.take (k + 1) = s.take f ++ ((s.take k).drop f ++ [0]) := by
    rw [List.take_succ_eq_append_getElem hk]
    have : s[k] = 0 := by simpa [List.getD, hk] using h0
    rw [this]
    have e3 : s.take f = (s.take k).take f := by rw [List.take_take, Nat.min_eq_left hf]
    rw [e3, ← List.append_assoc, List.take_append_drop]
  have e2 : (s.take (k + 1)).drop f = (s.take k).drop f ++ [0] := by
    rw [e1, List.drop_append, List.drop_eq_nil_of_le (by simp; omega)]
    have : f - (s.take f).length = 0 := by simp; omega
    rw [this]; simp
  rw [e2, e1, esc_append, esc_append]
  congr 1
  have e4 : esc ((s.take k).drop f) = (s.take k).drop f := by
    apply esc_free
    intro n hn
    obtain ⟨j, hj, rfl⟩ := List.mem_iff_getElem.1 hn
    simp at hj
    have := hfree (f + j) (by omega) (by omega)
    simpa [List.getD, show f + j < s.length by omega] using this
  rw [e4]
  simp [esc]

theorem esc_end (s : List Int) (f : Nat) (hfree : ∀ j, f ≤ j → j < s.length → s.getD j 0 ≠ 0) : esc s = esc (s.take f) ++ s.drop f := by
  have e4 : esc (s.drop f) = s.drop f := by
    apply esc_free
    intro n hn
    obtain ⟨j, hj, rfl⟩ := List.mem_iff_getElem.1 hn
    simp at hj
    have := hfree (f + j) (by omega) (by omega)
    simpa [List.getD, show f + j < s.length by omega] using this
  conv => lhs; rw [← List.take_append_drop f s]
  rw [esc_append, e4]

end Go.Proofs.Qxb6616517a.Plain
