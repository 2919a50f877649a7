/-
  WHAT THE WALKS ARE TOLD OF A SLICE OF BYTES ('Part'), OF A LIST OF SUCH VALUES ('PL') AND OF A SLICE OF SLICES OF BYTES ('Parts').
-/
import Derived.Test.Qxb6617787aRows
import Derived.Test.Qxb6617787aShelf
import Derived.WalkKit
import Derived.WalkSpells
import Derived.Laws.AppendOwnNone
import Derived.Deep.QuietTactic
import Derived.BigQuiet
namespace Go.Proofs.Qxb6617787a
open Go.RowKit

theorem hide {p : Prop} (h : p) : Hid p := h
theorem unhide {p : Prop} (h : Hid p) : p := h
theorem info5 : (Try.prog.info? 5).map (fun i => (i.zero, i.size, i.bytes)) = some (some (.int .u8 0), 1, 1) := by kernel_rfl
theorem info25 : (Try.prog.info? 25).map (fun i => (i.zero, i.size, i.bytes)) = some (some (.slice none 0 0), 1, 24) := by kernel_rfl
theorem size5 : (Try.prog.info? 5).map (·.size) = some 1 := by kernel_rfl

/-- The slice value v reads as the bytes S in the world w. -/
def Part (w : World) (v : Value) (S : List UInt8) : Prop :=
  ∃ a c, v = .slice a S.length c ∧ S.length ≤ c ∧ c ≤ maxLen ∧ ((a = none → c = 0) ∧ (0 < c → ∃ b off, a = some ⟨b, off, none⟩)) ∧ ∀ x, a = some x → ∀ j u, (Lib.byteCells S)[j]? = some u → w.cell? (x.add j) = some u

theorem add_block (x : Addr) (j : Nat) : (x.add j).block = x.block := by unfold Addr.add; split <;> rfl

theorem Part.below {w w' : World} {v : Value} {S : List UInt8} (h : Part w v S) (hb : Below w.heap.size w w') : Part w' v S := by
  obtain ⟨a, c, hv, hc, hm, hn, hcell⟩ := h
  refine ⟨a, c, hv, hc, hm, hn, fun x hx j u hu => ?_⟩
  have := hcell x hx j u hu
  rw [hb.cell (World.block_lt_of_cell? _ _ this)]
  exact this

theorem byteCells_take (S : List UInt8) (k : Nat) : Lib.byteCells (S.take k) = (Lib.byteCells S).take k := by simp [Lib.byteCells]
theorem byteCells_drop (S : List UInt8) (k : Nat) : Lib.byteCells (S.drop k) = (Lib.byteCells S).drop k := by simp [Lib.byteCells]
theorem byteCells_append (S T : List UInt8) : Lib.byteCells (S ++ T) = Lib.byteCells S ++ Lib.byteCells T := by simp [Lib.byteCells]
theorem byteCells_length (S : List UInt8) : (Lib.byteCells S).length = S.length := by simp [Lib.byteCells]
theorem byteCells_one (S : List UInt8) : ∀ u ∈ Lib.byteCells S, u.oneCell' = true := by
  intro u hu
  simp only [Lib.byteCells, List.mem_map] at hu
  obtain ⟨_, _, rfl⟩ := hu
  rfl

/-- 'p[:k]'. -/
theorem Part.head {w : World} {a : Option Addr} {n c : Nat} {S : List UInt8} (h : Part w (.slice a n c) S) (k : Nat) (hk : k ≤ n) : Part w (.slice a k c) (S.take k) := by
  obtain ⟨a', c', hv, hc, hm, hn, hcell⟩ := h
  simp only [Value.slice.injEq] at hv
  obtain ⟨rfl, rfl, rfl⟩ := hv
  have hl : (S.take k).length = k := by simp; omega
  refine ⟨a, c, by rw [hl], by rw [hl]; omega, hm, hn, fun x hx j u hu => hcell x hx j u ?_⟩
  rw [byteCells_take, List.getElem?_take] at hu
  split at hu
  · exact hu
  · cases hu

/-- 'p[k:]'. -/
theorem Part.tail {w : World} {a : Option Addr} {n c : Nat} {S : List UInt8} (h : Part w (.slice a n c) S) (k : Nat) (hk : k ≤ n) : Part w (.slice (if c = k then a else a.map (·.add (k * 1))) (n - k) (c - k)) (S.drop k) := by
  obtain ⟨a', c', hv, hc, hm, hn, hcell⟩ := h
  simp only [Value.slice.injEq] at hv
  obtain ⟨rfl, rfl, rfl⟩ := hv
  have hl : (S.drop k).length = S.length - k := by simp
  refine ⟨_, _, by rw [hl], by rw [hl]; omega, by omega, ⟨fun hnone => ?_, fun hpos => ?_⟩, fun x hx j u hu => ?_⟩
  · by_cases hck : c = k
    · omega
    · rw [if_neg hck] at hnone
      have := hn.1 (by cases a <;> simp_all)
      omega
  · rw [if_neg (by omega)]
    obtain ⟨b, off, rfl⟩ := hn.2 (by omega)
    exact ⟨b, off + k, by simp [Addr.add]⟩
  · by_cases hck : c = k
    · have hj := (List.getElem?_eq_some_iff.1 hu).1
      rw [byteCells_length, hl] at hj
      omega
    · rw [if_neg hck] at hx
      cases a with
      | none => cases hx
      | some y =>
        simp only [Option.map_some, Option.some.injEq] at hx
        subst hx
        rw [byteCells_drop, List.getElem?_drop] at hu
        have := hcell y rfl (k + j) u hu
        have e : (y.add (k * 1)).add j = y.add (k + j) := by
          simp only [Addr.add, Nat.mul_one]
          repeat' split
          all_goals simp_all [Nat.add_assoc]
        rw [e]
        exact this

/-- A list of values reads as a list of byte strings. -/
def PL (w : World) : List Value → List (List UInt8) → Prop
  | [], [] => True
  | v :: V, S :: PS => Part w v S ∧ PL w V PS
  | _, _ => False

theorem PL.length {w : World} : ∀ {V : List Value} {PS : List (List UInt8)}, PL w V PS → V.length = PS.length
  | [], [], _ => rfl
  | _ :: _, _ :: _, h => by simp [PL.length h.2]
  | [], _ :: _, h => by cases h
  | _ :: _, [], h => by cases h

theorem PL.below {w w' : World} (hb : Below w.heap.size w w') : ∀ {V : List Value} {PS : List (List UInt8)}, PL w V PS → PL w' V PS
  | [], [], _ => trivial
  | _ :: _, _ :: _, h => ⟨h.1.below hb, PL.below hb h.2⟩
  | [], _ :: _, h => by cases h
  | _ :: _, [], h => by cases h

theorem PL.snoc {w : World} {v : Value} {S : List UInt8} (hv : Part w v S) : ∀ {V : List Value} {PS : List (List UInt8)}, PL w V PS → PL w (V ++ [v]) (PS ++ [S])
  | [], [], _ => ⟨hv, trivial⟩
  | _ :: _, _ :: _, h => ⟨h.1, PL.snoc hv h.2⟩
  | [], _ :: _, h => by cases h
  | _ :: _, [], h => by cases h

theorem PL.get {w : World} : ∀ {V : List Value} {PS : List (List UInt8)} (r : Nat) (v : Value), PL w V PS → V[r]? = some v → Part w v (PS.getD r [])
  | [], [], r, v, _, hr => by simp at hr
  | x :: _, S :: _, 0, v, h, hr => by simp at hr; subst hr; exact h.1
  | _ :: V, _ :: PS, r + 1, v, h, hr => by
    have := PL.get (V := V) (PS := PS) r v h.2 (by simpa using hr)
    simpa using this
  | [], _ :: _, _, _, h, _ => by cases h
  | _ :: _, [], _, _, h, _ => by cases h

/-- The slice of slices v, its values V, reads as the byte strings PS in the world w. -/
def Parts (w : World) (v : Value) (PS : List (List UInt8)) : Prop :=
  ∃ oa oc V, v = .slice oa PS.length oc ∧ PS.length ≤ oc ∧ oc ≤ maxLen ∧ PL w V PS ∧ (0 < PS.length → ∃ ob oo, oa = some ⟨ob, oo, none⟩ ∧ ∀ r, r < PS.length → w.cell? ⟨ob, oo + r, none⟩ = V[r]?)

theorem Parts.below {w w' : World} {v : Value} {PS : List (List UInt8)} (h : Parts w v PS) (hb : Below w.heap.size w w') : Parts w' v PS := by
  obtain ⟨oa, oc, V, hv, hc, hm, hpl, hcell⟩ := h
  refine ⟨oa, oc, V, hv, hc, hm, hpl.below hb, fun h0 => ?_⟩
  obtain ⟨ob, oo, hoa, hcs⟩ := hcell h0
  refine ⟨ob, oo, hoa, fun r hr => ?_⟩
  have h1 := hcs r hr
  have hlt : r < V.length := by rw [hpl.length]; exact hr
  rw [List.getElem?_eq_getElem hlt] at h1 ⊢
  rw [hb.cell (World.block_lt_of_cell? _ _ h1)]
  exact h1

/-- Part r of a slice of slices: its value and how it reads. -/
theorem Parts.at {w : World} {a : Option Addr} {n c : Nat} {PS : List (List UInt8)} (h : Parts w (.slice a n c) PS) (r : Nat) (hr : r < n) :
    ∃ ob oo pa pn pc, a = some ⟨ob, oo, none⟩ ∧ w.cell? ⟨ob, oo + r, none⟩ = some (.slice pa pn pc) ∧ pn = (PS.getD r []).length ∧ Part w (.slice pa pn pc) (PS.getD r []) := by
  obtain ⟨oa, oc, V, hv, hc, hm, hpl, hcell⟩ := h
  simp only [Value.slice.injEq] at hv
  obtain ⟨rfl, rfl, rfl⟩ := hv
  obtain ⟨ob, oo, hoa, hcs⟩ := hcell (by omega)
  have hlt : r < V.length := by rw [hpl.length]; exact hr
  have h1 := hcs r hr
  rw [List.getElem?_eq_getElem hlt] at h1
  have hp := hpl.get r V[r] (List.getElem?_eq_getElem hlt)
  obtain ⟨pa, pc, hpv, hrest⟩ := hp
  refine ⟨ob, oo, pa, _, pc, hoa, by rw [h1, hpv], rfl, ?_⟩
  exact ⟨pa, pc, rfl, hrest⟩

end Go.Proofs.Qxb6617787a
