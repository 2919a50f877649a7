/-
  WHAT THE WALK OF FnPrefixIgnoresPartBoundaries CARRIES: the three slices of slices and the join, in whatever world has come of the first.
-/
import Derived.Test.Qxb6617787aPfx
import Derived.Test.Qxb6617787aHead
namespace Go.Proofs.Qxb6617787a
open Go.RowKit

theorem bt {a b c : World} (h : Below a.heap.size a b) (k : Below b.heap.size b c) : Below a.heap.size a c := h.trans (k.mono h.size)

theorem one_cell (w : World) (v : Value) (t : TypeId) : ∀ j u, ([v] : List Value)[j]? = some u → (w.alloc (.cells #[v] t)).cell? ((⟨w.heap.size, 0, none⟩ : Addr).add j) = some u := by
  intro j u hj
  match j, hj with
  | 0, hj => simp at hj; subst hj; simp [Addr.add]

theorem slice_one (a : Option Addr) (n c : Nat) : ∀ u ∈ ([.slice a n c] : List Value), u.oneCell' = true := by
  intro u hu
  simp at hu
  subst hu
  rfl

theorem own_parts {w : World} {B g m c : Nat} {V : List Value} {PS : List (List UInt8)} (h : w.ownsRow B 25 1 (.slice (some ⟨g, 0, none⟩) m c) m V) (hpl : PL w V PS) : m = PS.length ∧ Parts w (.slice (some ⟨g, 0, none⟩) m c) PS := by
  have hV : V.length = m := by simpa using h.1
  have hl : m = PS.length := by rw [← hV]; exact hpl.length
  refine ⟨hl, some ⟨g, 0, none⟩, c, V, by rw [hl], ?_, ?_, hpl, fun _ => ⟨g, 0, rfl, fun r hr => ?_⟩⟩
  · rcases h.2 with ⟨h', _⟩ | ⟨g', c', cur, h', _, _, h1, _⟩
    · simp at h'
    · simp only [Value.slice.injEq] at h'
      omega
  · rcases h.2 with ⟨h', _⟩ | ⟨g', c', cur, h', _, _, _, h1, _⟩
    · simp at h'
    · simp only [Value.slice.injEq] at h'
      omega
  · rw [Nat.zero_add]
    exact h.cellAt r (by omega)

theorem one_parts {w : World} {v : Value} {J : List UInt8} (h : Part w v J) : Parts (w.alloc (.cells #[v] 25)) (.slice (some ⟨w.heap.size, 0, none⟩) 1 1) [J] := by
  refine ⟨some ⟨w.heap.size, 0, none⟩, 1, [v], rfl, Nat.le_refl _, by unfold maxLen; omega, ⟨h.below ((Below.refl _ _).alloc (Nat.le_refl _) _), trivial⟩, fun _ => ⟨w.heap.size, 0, rfl, fun r hr => ?_⟩⟩
  have : r = 0 := by simp at hr; exact hr
  subst this
  simp

theorem Parts.rows {w : World} {a : Option Addr} {n c : Nat} {PS : List (List UInt8)} (h : Parts w (.slice a n c) PS) (h0 : 0 < n) :
    ∃ ob oo, a = some ⟨ob, oo, none⟩ ∧ ob < w.heap.size ∧ ∀ r, r < n → ∃ pa pn pc, w.cell? ⟨ob, oo + r, none⟩ = some (.slice pa pn pc) ∧ pn = (PS.getD r []).length ∧ Part w (.slice pa pn pc) (PS.getD r []) := by
  obtain ⟨ob, oo, pa, pn, pc, rfl, g, hpn, hpart⟩ := h.at 0 h0
  refine ⟨ob, oo, rfl, World.block_lt_of_cell? _ _ g, fun r hr => ?_⟩
  obtain ⟨ob', oo', pa', pn', pc', e, g', hpn', hpart'⟩ := h.at r hr
  simp only [Option.some.injEq, Addr.mk.injEq] at e
  obtain ⟨rfl, rfl, _⟩ := e
  exact ⟨pa', pn', pc', g', hpn', hpart'⟩

/-- Behind 'split = append(split, p)', split the call's own. -/
theorem below_app {w1 wr w3 : World} {o : Obj} (hb : Below w1.heap.size w1 wr) (hg : (wr.alloc o).grownBy w3 (some w1.heap.size)) : Below w1.heap.size w1 w3 :=
  (hb.alloc hb.size _).grown hg (by have := hb.size; simp; omega) (fun k hk => by cases hk; exact Nat.le_refl _)

theorem nil_pl (w : World) : PL w ([] ++ [.slice none 0 0]) [[]] :=
  ⟨⟨none, 0, rfl, Nat.le_refl _, Nat.zero_le _, ⟨fun _ => rfl, fun h => absurd h (Nat.lt_irrefl 0)⟩, fun x hx => by cases hx⟩, trivial⟩

/-- All that is carried. -/
def Inv (w : World) (vp vs vo vj : Value) (PS PS' : List (List UInt8)) (J : List UInt8) (W : World) : Prop :=
  Parts W vp PS ∧ Parts W vs PS' ∧ Parts W vo [J] ∧ Part W vj J ∧ Below w.heap.size w W

theorem Inv.step {w : World} {vp vs vo vj : Value} {PS PS' : List (List UInt8)} {J : List UInt8} {W W' : World} (h : Inv w vp vs vo vj PS PS' J W) (hb : Below W.heap.size W W') : Inv w vp vs vo vj PS PS' J W' :=
  ⟨h.1.below hb, h.2.1.below hb, h.2.2.1.below hb, h.2.2.2.1.below hb, bt h.2.2.2.2 hb⟩

/-- The three texts are one. -/
theorem pfx_is (gt n : Nat) (oa : Option Addr) (np oc : Nat) (PS : List (List UInt8)) (J : List UInt8) (s : ByteArray) (w : World) (hc : w.cell? ⟨gt, 0, none⟩ = some (.slice oa np oc)) (hP : Parts w (.slice oa np oc) PS) (hn : n ≤ 65536) (hsm : np ≤ 2097152)
    (hJ : PS.flatten = J) (hs : s = ⟨(J.take n).toArray⟩) :
    Calls Try.prog 7 #[.pointer (some ⟨gt, 0, none⟩), .int .i64 (n : Int)] w fun e w' => e = .returned (.string s) ∧ Below w.heap.size w w' := by
  subst hJ
  subst hs
  exact zzpfx gt n oa np oc PS w hc hP (parts_len hP).1 hn hsm

/-- Behind a round that appends part j as it is. -/
theorem flat_snoc {PS PS' : List (List UInt8)} {j : Nat} (h : PS'.flatten = (PS.take j).flatten) (hj : j < PS.length) : (PS' ++ [PS.getD j []]).flatten = (PS.take (j + 1)).flatten := by
  have e : PS.getD j [] = PS[j] := by simp [List.getD, hj]
  rw [e, List.take_succ_eq_append_getElem hj, List.flatten_append, List.flatten_append, h]

/-- Behind the round that cuts part j at k. -/
theorem flat_cut {PS PS' : List (List UInt8)} {j k : Nat} (h : PS'.flatten = (PS.take j).flatten) (hj : j < PS.length) : (PS' ++ [(PS.getD j []).take k] ++ [(PS.getD j []).drop k]).flatten = (PS.take (j + 1)).flatten := by
  rw [← flat_snoc h hj]
  simp [List.flatten_append]

end Go.Proofs.Qxb6617787a
