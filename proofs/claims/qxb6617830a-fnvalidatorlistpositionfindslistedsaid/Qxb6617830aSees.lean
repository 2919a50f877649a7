/-
  WHAT THE WALKS ARE TOLD OF A SLICE OF INTS ('Row') AND OF A MAP FROM INTS TO INTS ('Mp').
-/
import Derived.Test.Qxb6617830aRows
import Derived.Test.Qxb6617830aPlain
import Derived.WalkKit
import Derived.WalkSpells
import Derived.Maps.OwnSet
namespace Go.Proofs.Qxb6617830a
open Go.RowKit Go.Maps
open Plain

theorem hide {p : Prop} (h : p) : Hid p := h
theorem unhide {p : Prop} (h : Hid p) : p := h

/-- The slice value reads as the numbers zs in the world w. -/
def Row (w : World) (a : Option Addr) (n : Nat) (zs : List Int) : Prop :=
  zs.length = n ∧ (∀ z ∈ zs, (Lit.int .i64 z).wf = true) ∧ (0 < n → ∃ b off, a = some ⟨b, off, none⟩ ∧ b < w.heap.size ∧ ∀ j, j < n → w.cell? ⟨b, off + j, none⟩ = some (.int .i64 (zs.getD j 0)))

theorem Row.below {w w' : World} {a : Option Addr} {n : Nat} {zs : List Int} (h : Row w a n zs) (hb : Below w.heap.size w w') : Row w' a n zs := by
  refine ⟨h.1, h.2.1, fun h0 => ?_⟩
  obtain ⟨b, off, ha, hlt, hc⟩ := h.2.2 h0
  exact ⟨b, off, ha, Nat.lt_of_lt_of_le hlt hb.size, fun j hj => (hb.cell (by exact hlt)).trans (hc j hj)⟩

theorem Row.wf {w : World} {a : Option Addr} {n : Nat} {zs : List Int} (h : Row w a n zs) (j : Nat) (hj : j < n) : (Lit.int .i64 (zs.getD j 0)).wf = true := by
  have hj' : j < zs.length := by rw [h.1]; exact hj
  have e : zs.getD j 0 = zs[j] := by simp [List.getD, hj']
  rw [e]
  exact h.2.1 _ (List.getElem_mem hj')

/-- The map value: what each look-up gives, and its length, in whatever world lies below. -/
def Mp (w : World) (r : Option Nat) (nf : Nat) (look : Int → Option Int) : Prop :=
  (∀ W, Below w.heap.size w W → ∀ x, (Lit.int .i64 x).wf = true → Sem.run Try.prog (Instr.lookup 26 (.map r) (.int .i64 x) true) W = .ok (.tuple #[.int .i64 ((look x).getD 0), .bool (look x).isSome]) W) ∧
  (∀ W, Below w.heap.size w W → ∀ ty, Sem.run Try.prog (Builtin.len_ #[26] ty #[.map r]) W = .ok (.int .i64 nf) W) ∧ Few look nf

theorem Mp.below {w w' : World} {r : Option Nat} {nf : Nat} {look : Int → Option Int} (h : Mp w r nf look) (hb : Below w.heap.size w w') : Mp w' r nf look :=
  ⟨fun W hW => h.1 W (hb.trans (hW.mono hb.size)), fun W hW => h.2.1 W (hb.trans (hW.mono hb.size)), h.2.2⟩

theorem law3 : Keyed Try.prog 3 := int_keyed Try.underlying3
theorem zero3 (w : World) : (zeroValue 3).run Try.prog w = .ok (.int .i64 0) w := by kernel_rfl

/-- A nil map. -/
theorem mp_nil (w : World) : Mp w none 0 (fun _ => none) := by
  refine ⟨fun W _ x hx => ?_, fun W _ ty => ?_, [], Nat.le_refl _, fun x hx => by cases hx⟩
  · have h := look_nil (w := W) true law3 Try.underlying26 (zero3 _) (keyOf_int_mk Try.underlying3 hx)
    exact h
  · exact len_nil (w := W) Try.underlying26 ty

/-- The number in a datum. -/
def num {H : Type} : DataW H → Int
  | .lit (.int _ c) => c
  | _ => 0
def lookOf {H : Type} (D : DataW H) (x : Int) : Option Int := if Maps.has D (.int .i64 x) = true then some (num (D.atKey (.int .i64 x) (.lit (.int .i64 0)))) else none
def keyNum : Lit → Int
  | .int _ a => a
  | _ => 0

theorem few_of {H : Type} (D : DataW H) : Few (lookOf D) (Maps.size D) := by
  cases D with
  | map es =>
    refine ⟨es.map fun p => keyNum p.1, by simp [Maps.size], fun x hx => ?_⟩
    have hh : Maps.has (DataW.map es) (.int .i64 x) = true := by
      unfold lookOf at hx
      split at hx
      · assumption
      · cases hx
    rw [Maps.has_eq, List.any_eq_true] at hh
    obtain ⟨p, hp, hk⟩ := hh
    refine List.mem_map.2 ⟨p, hp, ?_⟩
    rw [WideAt.sameKey_eq hk]
    rfl
  | _ => exact ⟨[], Nat.zero_le _, fun x hx => by simp [lookOf, Maps.has] at hx⟩

/-- A map that came in. -/
theorem mp_own {H : Type} {w : World} {b n : Nat} {D : DataW H} (hown : w.ownsMap Try.prog 3 (plainElem Try.prog 3) b n D) : Mp w (some b) (Maps.size D) (lookOf D) := by
  have hlt : b < w.heap.size := by
    obtain ⟨es, clock, hb, _⟩ := hown
    exact (Array.getElem?_eq_some_iff.1 hb).1
  have up : ∀ W, Below w.heap.size w W → W.ownsMap Try.prog 3 (plainElem Try.prog 3) b n D := by
    intro W hW
    obtain ⟨es, clock, hb, r⟩ := hown
    exact ⟨es, clock, (hW.block b hlt).trans hb, r⟩
  refine ⟨fun W hW x hx => ?_, fun W hW ty => (up W hW).len Try.underlying26 ty, few_of D⟩
  obtain ⟨v, ps, hrun, hv⟩ := (up W hW).look_ok law3 Try.underlying26 (zero3 _) (zd := .lit (.int .i64 0)) (zp := []) (plainElem_int Try.underlying3 (by decide)) (keyOf_int_mk Try.underlying3 hx)
  obtain ⟨c, rfl, hc, _⟩ := plainElem_int_inv Try.underlying3 hv
  have hat : D.atKey (.int .i64 x) (.lit (.int .i64 0)) = .lit (.int .i64 c) := congrArg Prod.fst hc
  rw [hrun]
  unfold lookOf
  by_cases hh : Maps.has D (.int .i64 x) = true
  · rw [if_pos hh, hat, hh]
    rfl
  · have hf : Maps.has D (.int .i64 x) = false := by simpa using hh
    have h0 := atKey_of_not_has hf (.lit (.int .i64 0))
    rw [hat] at h0
    have hc0 : c = 0 := by simpa using h0
    rw [if_neg hh, hf, hc0]
    rfl

end Go.Proofs.Qxb6617830a
