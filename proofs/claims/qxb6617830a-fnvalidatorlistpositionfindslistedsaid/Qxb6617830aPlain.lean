/-
  THE PLAIN LAW of the seat: no Go in sight. 'zs': the listed numbers; 'ps': the table of positions; 'look': the far map; 'nf': its length.
-/
namespace Go.Proofs.Qxb6617830a.Plain

/-- Does the number lie in the table? -/
def inR (np : Nat) (v : Int) : Bool := decide (0 ≤ v) && decide (v < (np : Int))

/-- What 'position' gives. -/
def posn (ps : List Int) (look : Int → Option Int) (id : Int) : Int × Bool :=
  if inR ps.length id = true then (if 0 ≤ ps.getD id.toNat 0 then (ps.getD id.toNat 0, true) else (0, false)) else ((look id).getD 0, (look id).isSome)

/-- The place of the first element equal to id, or -1: 'k' behind k elements. -/
def find (zs : List Int) (id : Int) (k : Int) : Int :=
  match zs with
  | [] => -1
  | z :: r => if z = id then k else find r id (k + 1)

def marked (ps : List Int) (j : Nat) : List Nat := (List.range j).filter fun v => decide (0 ≤ ps.getD v 0)
def ranged (np : Nat) (zs : List Int) : List Int := zs.filter (inR np)

theorem marked_succ (ps : List Int) (j : Nat) : (marked ps (j + 1)).length = (marked ps j).length + (if 0 ≤ ps.getD j 0 then 1 else 0) := by
  unfold marked
  rw [List.range_succ, List.filter_append, List.length_append]
  congr 1
  by_cases h : 0 ≤ ps.getD j 0 <;> simp only [List.filter_cons, List.filter_nil, h, decide_true, decide_false, if_true] <;> rfl

theorem ranged_succ (np : Nat) (zs : List Int) (k : Nat) (h : k < zs.length) : (ranged np (zs.take (k + 1))).length = (ranged np (zs.take k)).length + (if inR np (zs.getD k 0) = true then 1 else 0) := by
  unfold ranged
  rw [List.take_succ_eq_append_getElem h, List.filter_append, List.length_append]
  have e : zs.getD k 0 = zs[k] := by simp [List.getD, h]
  rw [e]
  congr 1
  by_cases h : inR np zs[k] = true
  · simp [h]
  · simp [h]

/-- What zzIndexed's 'true' tells. -/
def Good (zs ps : List Int) (look : Int → Option Int) (nf : Nat) : Prop :=
  (∀ i, i < zs.length → (inR ps.length (zs.getD i 0) = true → ps.getD (zs.getD i 0).toNat 0 = (i : Int)) ∧ (inR ps.length (zs.getD i 0) = false → look (zs.getD i 0) = some (i : Int))) ∧
  (marked ps ps.length).length = (ranged ps.length zs).length ∧ (nf : Int) = (zs.length : Int) - ((ranged ps.length zs).length : Int)

/-- The far map has no more keys than its length. -/
def Few (look : Int → Option Int) (nf : Nat) : Prop := ∃ K : List Int, K.length ≤ nf ∧ ∀ x, (look x).isSome = true → x ∈ K

theorem parted (f : Int → Bool) : ∀ l : List Int, (l.filter fun v => !f v).length + (l.filter f).length = l.length
  | [] => rfl
  | a :: l => by
    have := parted f l
    by_cases h : f a = true <;> simp [h] <;> omega

/-! ### pigeons -/
theorem nodup_le : ∀ (L K : List Int), L.Nodup → (∀ x ∈ L, x ∈ K) → L.length ≤ K.length
  | [], _, _, _ => Nat.zero_le _
  | a :: L, K, hn, hs => by
    have ha : a ∈ K := hs a (by simp)
    have h1 : a ∉ L := (List.nodup_cons.1 hn).1
    have h2 := nodup_le L (K.erase a) (List.nodup_cons.1 hn).2 (fun x hx => (List.mem_erase_of_ne (fun e => h1 (by rw [← e]; exact hx))).2 (hs x (by simp [hx])))
    have h3 := List.length_erase_of_mem ha
    have h4 : 0 < K.length := List.length_pos_of_mem ha
    simp
    omega

theorem full {L K : List Int} (hn : L.Nodup) (hs : ∀ x ∈ L, x ∈ K) (hl : K.length ≤ L.length) {x : Int} (hx : x ∈ K) : x ∈ L := by
  by_cases h : x ∈ L
  · exact h
  · have := nodup_le (x :: L) K (List.nodup_cons.2 ⟨h, hn⟩) (fun y hy => by
      rcases List.mem_cons.1 hy with rfl | hy
      · exact hx
      · exact hs y hy)
    simp at this
    omega

/-! ### the law -/
section
variable {zs ps : List Int} {look : Int → Option Int} {nf : Nat}

theorem Good.at (g : Good zs ps look nf) (i : Nat) (h : i < zs.length) : posn ps look (zs.getD i 0) = ((i : Int), true) := by
  unfold posn
  by_cases hr : inR ps.length (zs.getD i 0) = true
  · rw [if_pos hr, (g.1 i h).1 hr, if_pos (by omega)]
  · rw [if_neg hr, (g.1 i h).2 (by simpa using hr)]
    rfl

theorem Good.nodup (g : Good zs ps look nf) : zs.Nodup := by
  rw [List.Nodup, List.pairwise_iff_getElem]
  intro i j hi hj hij e
  have e1 : zs.getD i 0 = zs.getD j 0 := by simp [List.getD, hi, hj, e]
  have h1 := g.at i hi
  have h2 := g.at j hj
  rw [e1, h2] at h1
  have := congrArg Prod.fst h1
  simp at this
  omega

theorem Good.miss (g : Good zs ps look nf) (few : Few look nf) (id : Int) (hid : id ∉ zs) : posn ps look id = (0, false) := by
  unfold posn
  by_cases hr : inR ps.length id = true
  · rw [if_pos hr]
    have hb : 0 ≤ id ∧ id < (ps.length : Int) := by simpa [inR] using hr
    by_cases hp : 0 ≤ ps.getD id.toNat 0
    · exfalso
      have hnd : (ranged ps.length zs).Nodup := g.nodup.sublist List.filter_sublist
      have hsub : ∀ x ∈ ranged ps.length zs, x ∈ (marked ps ps.length).map Int.ofNat := by
        intro x hx
        obtain ⟨hx1, hx2⟩ := List.mem_filter.1 hx
        obtain ⟨i, hi, rfl⟩ := List.mem_iff_getElem.1 hx1
        have e : zs.getD i 0 = zs[i] := by simp [List.getD, hi]
        have h1 := (g.1 i hi).1 (by rw [e]; exact hx2)
        rw [e] at h1
        have hb : 0 ≤ zs[i] ∧ zs[i] < (ps.length : Int) := by simpa [inR] using hx2
        refine List.mem_map.2 ⟨zs[i].toNat, List.mem_filter.2 ⟨List.mem_range.2 (by omega), ?_⟩, Int.toNat_of_nonneg hb.1⟩
        rw [h1]
        simp
      have hmem : id ∈ (marked ps ps.length).map Int.ofNat :=
        List.mem_map.2 ⟨id.toNat, List.mem_filter.2 ⟨List.mem_range.2 (by omega), by simpa using hp⟩, Int.toNat_of_nonneg hb.1⟩
      have := full hnd hsub (by rw [List.length_map, g.2.1]; exact Nat.le_refl _) hmem
      exact hid (List.mem_filter.1 this).1
    · rw [if_neg hp]
  · rw [if_neg hr]
    cases hl : look id with
    | none => rfl
    | some c =>
      exfalso
      obtain ⟨K, hK, hin⟩ := few
      have hnd : (zs.filter fun v => !inR ps.length v).Nodup := g.nodup.sublist List.filter_sublist
      have hsub : ∀ x ∈ zs.filter (fun v => !inR ps.length v), x ∈ K := by
        intro x hx
        obtain ⟨hx1, hx2⟩ := List.mem_filter.1 hx
        obtain ⟨i, hi, rfl⟩ := List.mem_iff_getElem.1 hx1
        have e : zs.getD i 0 = zs[i] := by simp [List.getD, hi]
        have h1 := (g.1 i hi).2 (by rw [e]; simpa using hx2)
        rw [e] at h1
        exact hin _ (by rw [h1]; rfl)
      have hcount : (zs.filter fun v => !inR ps.length v).length + (ranged ps.length zs).length = zs.length := by
        unfold ranged
        exact parted _ zs
      have hlen : K.length ≤ (zs.filter fun v => !inR ps.length v).length := by
        have := g.2.2
        omega
      have := full hnd hsub hlen (hin id (by rw [hl]; rfl))
      exact hid (List.mem_filter.1 this).1

theorem find_hit : ∀ (zs : List Int) (id k : Int), 0 ≤ k → (find zs id k = -1 ∧ id ∉ zs) ∨ ∃ i : Nat, i < zs.length ∧ zs.getD i 0 = id ∧ find zs id k = k + (i : Int)
  | [], id, k, _ => .inl ⟨rfl, by simp⟩
  | z :: r, id, k, hk => by
    by_cases h : z = id
    · right
      refine ⟨0, by simp, by simpa using h, ?_⟩
      simp [find, h]
    · rcases find_hit r id (k + 1) (by omega) with ⟨h1, h2⟩ | ⟨i, hi, h1, h2⟩
      · left
        refine ⟨by simp [find, h, h1], ?_⟩
        intro hm
        rcases List.mem_cons.1 hm with e | e
        · exact h e.symm
        · exact h2 e
      · right
        refine ⟨i + 1, by simpa using hi, by simpa using h1, ?_⟩
        simp [find, h, h2]
        omega

/-- THE LAW: the position agrees with the linear search. -/
theorem Good.law (g : Good zs ps look nf) (few : Few look nf) (id : Int) :
    (find zs id 0 = -1 ∧ posn ps look id = (0, false)) ∨ (0 ≤ find zs id 0 ∧ posn ps look id = (find zs id 0, true)) := by
  rcases find_hit zs id 0 (Int.le_refl _) with ⟨h1, h2⟩ | ⟨i, hi, h1, h2⟩
  · exact .inl ⟨h1, g.miss few id h2⟩
  · right
    have := g.at i hi
    rw [h1] at this
    refine ⟨by omega, ?_⟩
    rw [this, h2]
    simp

end

/-- One step of the search. -/
theorem find_step (zs : List Int) (id : Int) (k : Nat) (h : k < zs.length) (hne : zs.getD k 0 ≠ id) : find (zs.drop k) id k = find (zs.drop (k + 1)) id ((k + 1 : Nat) : Int) := by
  rw [List.drop_eq_getElem_cons h]
  have e : zs.getD k 0 = zs[k] := by simp [List.getD, h]
  rw [e] at hne
  simp [find, hne]
theorem find_here (zs : List Int) (id : Int) (k : Nat) (h : k < zs.length) (he : zs.getD k 0 = id) : find (zs.drop k) id k = k := by
  rw [List.drop_eq_getElem_cons h]
  have e : zs.getD k 0 = zs[k] := by simp [List.getD, h]
  rw [e] at he
  simp [find, he]
theorem find_end (zs : List Int) (id : Int) (k : Nat) (h : zs.length ≤ k) : find (zs.drop k) id k = -1 := by
  rw [List.drop_eq_nil_of_le h]; rfl

end Go.Proofs.Qxb6617830a.Plain
