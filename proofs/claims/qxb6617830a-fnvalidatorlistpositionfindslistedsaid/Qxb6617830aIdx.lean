/-
  THE WALKS of ZZPosition (9) and zzIndexed (7).
-/
import Derived.Test.Qxb6617830aPos
namespace Go.Proofs.Qxb6617830a
open Go.RowKit Go.Maps
open Plain

set_option maxHeartbeats 400000 in
theorem zzpos_any (ia : Option Addr) (ni ic : Nat) (pa : Option Addr) (np pc nf : Nat) (r : Option Nat) (id : Int) (ps : List Int) (look : Int → Option Int) (w : World) (hp : Row w pa np ps) (hm : Mp w r nf look) (hn : np ≤ 32768) (hid : (Lit.int .i64 id).wf = true) :
    Calls Try.prog 9 #[.slice ia ni ic, .slice pa np pc, .map r, .int .i64 id] w fun e w' => e = .returned (.tuple #[.int .i64 (posn ps look id).1, .bool (posn ps look id).2]) ∧ Below w.heap.size w w' := by
  have HP := hide hp
  have HM := hide hm
  have HI := hide hid
  clear hp hm hid
  obtain ⟨x, hx⟩ : ∃ x, (posn ps look id).1 = x := ⟨_, rfl⟩
  obtain ⟨y, hy⟩ : ∃ y, (posn ps look id).2 = y := ⟨_, rfl⟩
  have HX := hide hx
  have HY := hide hy
  rw [hx, hy]
  clear hx hy
  go_enter Try.func9, Try.ntmps9
  go_wp2_with fail
  have bl : ∀ o, Below w.heap.size w (w.alloc o) := fun o => (Below.refl _ _).alloc (Nat.le_refl _) o
  refine (pos_any w.heap.size pa np pc nf r id ps look _ ((unhide HP).below (bl _)) ((unhide HM).below (bl _)) hn (unhide HI) (by simp) (by simp)).mono ?_
  rw [unhide HX, unhide HY]
  rintro e w' ⟨rfl, rfl⟩
  have b0 := bl
  clear bl
  go_wp2_with fail
  go_ret2
  exact ⟨rfl, b0 _⟩

/-- The ending is a bool, and 'true' says P. -/
def Tells (e : Ending) (P : Prop) : Prop := ∃ b, e = .returned (.bool b) ∧ (b = true → P)
theorem Tells.mk {b : Bool} {P : Prop} (h : b = true → P) : Tells (.returned (.bool b)) P := ⟨b, rfl, h⟩

/-- What the first k rounds of zzIndexed have held. -/
def Held (zs ps : List Int) (look : Int → Option Int) (k : Nat) : Prop :=
  ∀ i, i < k → (inR ps.length (zs.getD i 0) = true → ps.getD (zs.getD i 0).toNat 0 = (i : Int)) ∧ (inR ps.length (zs.getD i 0) = false → look (zs.getD i 0) = some (i : Int))

theorem Held.succ {zs ps : List Int} {look : Int → Option Int} {k : Nat} (h : Held zs ps look k) (h1 : inR ps.length (zs.getD k 0) = true → ps.getD (zs.getD k 0).toNat 0 = (k : Int)) (h2 : inR ps.length (zs.getD k 0) = false → look (zs.getD k 0) = some (k : Int)) : Held zs ps look (k + 1) := by
  intro i hi
  by_cases e : i = k
  · subst e; exact ⟨h1, h2⟩
  · exact h i (by omega)

theorem ranged_le (np : Nat) (zs : List Int) (k : Nat) : (ranged np (zs.take k)).length ≤ k := by
  have h1 : (ranged np (zs.take k)).length ≤ (zs.take k).length := List.length_filter_le _ _
  simp at h1
  omega
theorem marked_le (ps : List Int) (j : Nat) : (marked ps j).length ≤ j := by
  have h1 : (marked ps j).length ≤ (List.range j).length := List.length_filter_le _ _
  simpa using h1

theorem look_some {o : Option Int} {k : Int} (h : o.isSome = true) (h1 : o.getD 0 = k) : o = some k := by
  cases o with
  | none => cases h
  | some x => exact congrArg some h1

theorem good_mk {zs ps : List Int} {look : Int → Option Int} {k np nf c m : Nat} (hz : zs.length = k) (hp : ps.length = np) (hc : c = (ranged np (zs.take k)).length) (hh : Held zs ps look k) (hm : m = (marked ps np).length) (hmc : m = c) (hf : (nf : Int) = (k : Int) - (c : Int)) : Plain.Good zs ps look nf := by
  have e : zs.take k = zs := List.take_of_length_le (by omega)
  rw [e] at hc
  subst hz
  subst hp
  exact ⟨hh, by omega, by omega⟩

set_option maxHeartbeats 2000000 in
set_option maxRecDepth 100000 in
theorem idx_any (ia : Option Addr) (ni ic : Nat) (pa : Option Addr) (np pc nf : Nat) (r : Option Nat) (zs ps : List Int) (look : Int → Option Int) (w : World) (hz : Row w ia ni zs) (hp : Row w pa np ps) (hm : Mp w r nf look) (hni : ni ≤ 32768) (hnp : np ≤ 32768) :
    Calls Try.prog 7 #[.slice ia ni ic, .slice pa np pc, .map r] w fun e w' => Tells e (Plain.Good zs ps look nf) ∧ w = w' := by
  have hlz := hz.1
  have hlp := hp.1
  have HZ := hide hz
  have HP := hide hp
  have HM := hide hm
  have HLZ := hide hlz
  have HLP := hide hlp
  clear hz hp hm hlz hlp
  go_enter Try.func7, Try.ntmps7
  go_wp2
  go_loop [7, 8, 9, 10, 11] (fun vr vi _ _ _ => ∃ k c : Nat, k ≤ ni ∧ vi = .int .i64 k ∧ vr = .int .i64 c ∧ c ≤ k ∧ Hid (c = (ranged np (zs.take k)).length) ∧ Hid (Held zs ps look k)) (fun _ vi _ _ _ => ni - (intOf vi).toNat)
  case atStart => exact ⟨0, 0, Nat.zero_le _, rfl, rfl, Nat.le_refl _, by simp [Hid, ranged], fun i hi => by omega⟩
  case round =>
    obtain ⟨k, c, hk, rfl, rfl, hck, hcr, hheld⟩ := hrel
    by_cases hlt : k < ni
    · obtain ⟨ib, io, rfl, _, hcs⟩ := (unhide HZ).2.2 (by omega)
      have gz := hcs k hlt
      have wz := (unhide HZ).wf k hlt
      have hrs := ranged_succ np zs k (by rw [unhide HLZ]; exact hlt)
      have hsu := fun h1 h2 => (unhide hheld).succ h1 h2
      rw [unhide HLP] at hsu
      have hlook := (unhide HM).1 w (Below.refl _ _) (zs.getD k 0) wz
      obtain ⟨z, hzz⟩ : ∃ z, zs.getD k 0 = z := ⟨_, rfl⟩
      rw [hzz] at gz wz hrs hsu hlook
      obtain ⟨lv, hlv⟩ : ∃ lv, (look z).getD 0 = lv := ⟨_, rfl⟩
      obtain ⟨lb, hlb⟩ : ∃ lb, (look z).isSome = lb := ⟨_, rfl⟩
      rw [hlv, hlb] at hlook
      have HSU := hide hsu
      have HRS := hide hrs
      have hi : (k : Int) < (ni : Int) := by omega
      clear hcs hzz hsu hrs wz
      by_cases hr : inR np z = true
      · have hbd : 0 ≤ z ∧ z < (np : Int) := by simpa [inR] using hr
        obtain ⟨q, rfl⟩ : ∃ q : Nat, z = (q : Int) := ⟨z.toNat, by omega⟩
        obtain ⟨pb, po, rfl, _, hcp⟩ := (unhide HP).2.2 (by omega)
        have gp := hcp q (by omega)
        obtain ⟨pv, hpv⟩ : ∃ pv, ps.getD q 0 = pv := ⟨_, rfl⟩
        rw [hpv] at gp
        have HPV := hide hpv
        have HR := hide hr
        have hq : (q : Int) < (np : Int) := by omega
        clear hlook hcp hpv hr hlv hlb hbd
        by_cases hpk : pv = (k : Int)
        · have t : (pv != (k : Int)) = false := by simpa using hpk
          have HPK := hide hpk
          clear hpk
          go_wp2
          go_round
          case rel => exact ⟨k + 1, c + 1, by omega, by go_num, by go_num, by omega, by show c + 1 = _; rw [unhide HRS, if_pos (unhide HR), ← unhide hcr], unhide HSU (fun _ => by rw [Int.toNat_natCast, unhide HPV]; exact unhide HPK) (fun h => by rw [unhide HR] at h; cases h)⟩
          case measure => simp [intOf]; omega
        · have t : (pv != (k : Int)) = true := by simpa using hpk
          clear hpk
          go_wp2
          go_ret
          exact ⟨Tells.mk (fun h => by cases h), rfl⟩
      · have hbd : ¬ (0 ≤ z ∧ z < (np : Int)) := by simpa [inR] using hr
        have HR : Hid (inR np z = false) := hide (by simpa using hr)
        have HLV := hide hlv
        have HLB := hide hlb
        clear hr hlv hlb
        by_cases hz0 : 0 ≤ z
        · have hz1 : (np : Int) ≤ z := by omega
          clear hbd
          cases lb with
          | false =>
            go_wp2
            go_ret
            exact ⟨Tells.mk (fun h => by cases h), rfl⟩
          | true =>
            by_cases hlk : lv = (k : Int)
            · have t : (lv != (k : Int)) = false := by simpa using hlk
              have HLK := hide hlk
              clear hlk
              go_wp2
              go_round
              case rel => exact ⟨k + 1, c, by omega, by go_num, rfl, by omega, by show c = _; rw [unhide HRS, if_neg (by rw [unhide HR]; decide), ← unhide hcr]; rfl, unhide HSU (fun h => by rw [unhide HR] at h; cases h) (fun _ => look_some (unhide HLB) ((unhide HLV).trans (unhide HLK)))⟩
              case measure => simp [intOf]; omega
            · have t : (lv != (k : Int)) = true := by simpa using hlk
              clear hlk
              go_wp2
              go_ret
              exact ⟨Tells.mk (fun h => by cases h), rfl⟩
        · have hz0' : z < 0 := by omega
          clear hbd hz0
          cases lb with
          | false =>
            go_wp2
            go_ret
            exact ⟨Tells.mk (fun h => by cases h), rfl⟩
          | true =>
            by_cases hlk : lv = (k : Int)
            · have t : (lv != (k : Int)) = false := by simpa using hlk
              have HLK := hide hlk
              clear hlk
              go_wp2
              go_round
              case rel => exact ⟨k + 1, c, by omega, by go_num, rfl, by omega, by show c = _; rw [unhide HRS, if_neg (by rw [unhide HR]; decide), ← unhide hcr]; rfl, unhide HSU (fun h => by rw [unhide HR] at h; cases h) (fun _ => look_some (unhide HLB) ((unhide HLV).trans (unhide HLK)))⟩
              case measure => simp [intOf]; omega
            · have t : (lv != (k : Int)) = true := by simpa using hlk
              clear hlk
              go_wp2
              go_ret
              exact ⟨Tells.mk (fun h => by cases h), rfl⟩
    · obtain rfl : k = ni := by omega
      have hlenf := fun ty => (unhide HM).2.1 w (Below.refl _ _) ty
      go_wp2
      go_loop [12, 13] (fun vm vj => ∃ j m : Nat, j ≤ np ∧ vj = .int .i64 j ∧ vm = .int .i64 m ∧ m ≤ j ∧ Hid (m = (marked ps j).length)) (fun _ vj => np - (intOf vj).toNat)
      case atStart => exact ⟨0, 0, Nat.zero_le _, rfl, rfl, Nat.le_refl _, by simp [Hid, marked]⟩
      case round =>
        obtain ⟨j, m, hj, rfl, rfl, hmj, hmk⟩ := hrel
        by_cases hlt2 : j < np
        · obtain ⟨pb, po, rfl, _, hcp⟩ := (unhide HP).2.2 (by omega)
          have gp := hcp j hlt2
          have hms := marked_succ ps j
          obtain ⟨pv, hpv⟩ : ∃ pv, ps.getD j 0 = pv := ⟨_, rfl⟩
          rw [hpv] at gp hms
          have HMS := hide hms
          have hi2 : (j : Int) < (np : Int) := by omega
          clear hcp hpv hms hlenf
          by_cases hp0 : 0 ≤ pv
          · have HP0 := hide hp0
            go_wp2
            go_round
            case rel => exact ⟨j + 1, m + 1, by omega, by go_num, by go_num, by omega, by show m + 1 = _; rw [unhide HMS, if_pos (unhide HP0), ← unhide hmk]⟩
            case measure => simp [intOf]; omega
          · have HP0 := hide hp0
            by_cases hp1 : pv = -1
            · have t : (pv != -1) = false := by simpa using hp1
              clear hp1
              go_wp2
              go_round
              case rel => exact ⟨j + 1, m, by omega, by go_num, rfl, by omega, by show m = _; rw [unhide HMS, if_neg (unhide HP0), ← unhide hmk]; rfl⟩
              case measure => simp [intOf]; omega
            · have t : (pv != -1) = true := by simpa using hp1
              clear hp1
              go_wp2
              go_ret
              exact ⟨Tells.mk (fun h => by cases h), rfl⟩
        · obtain rfl : j = np := by omega
          by_cases hmc : m = c
          · have t : ((m : Int) == (c : Int)) = true := by simp; omega
            have HMC := hide hmc
            clear hmc
            by_cases hfc : (nf : Int) = (k : Int) - (c : Int)
            · have t2 : ((nf : Int) == (k : Int) - (c : Int)) = true := by simpa using hfc
              have HFC := hide hfc
              clear hfc
              go_wp2
              go_ret
              exact ⟨Tells.mk (fun _ => good_mk (unhide HLZ) (unhide HLP) (unhide hcr) (unhide hheld) (unhide hmk) (unhide HMC) (unhide HFC)), rfl⟩
            · have t2 : ((nf : Int) == (k : Int) - (c : Int)) = false := by simpa using hfc
              clear hfc
              go_wp2
              go_ret
              exact ⟨Tells.mk (fun h => by cases h), rfl⟩
          · have t : ((m : Int) == (c : Int)) = false := by simp; omega
            clear hmc
            go_wp2
            go_ret
            exact ⟨Tells.mk (fun h => by cases h), rfl⟩

end Go.Proofs.Qxb6617830a
