/- What the two listed variables give the walks: unitMap answers every text as unitBy does, errLeadingInt holds some error; and that both stay so in worlds that only grew. -/
import Derived.Test.YteejjhdfebhagaaDoorLeadW
import Derived.LaidMore
import Derived.Below
import Derived.Stop.Joined
namespace Go.Proofs.YteejjhdfebhagaaDoor
open Go.ChangeShapes Go.WideShapes Go.ChangeAt Go.WideMaps Go.WideElems Go.RowKit
set_option linter.unusedVariables false

theorem gUnit : Tryd.prog.globalNamed "time.unitMap" = some 0 := by kernel_rfl
theorem gErr : Tryd.prog.globalNamed "time.errLeadingInt" = some 1 := by kernel_rfl
theorem tUnit : (Tryd.prog.globals[0]?).map (·.type) = some 72 := by kernel_rfl
theorem tErr : (Tryd.prog.globals[1]?).map (·.type) = some 50 := by kernel_rfl
theorem strLaw : KeyLaw Tryd.prog 9 := string_law Tryd.underlying9

/-- what a look-up of the text u gives -/
def unitVal (u : List UInt8) : Value := match unitBy u with
  | some b => .tuple #[.int .u64 (b : Int), .bool true]
  | none => .tuple #[.int .u64 0, .bool false]

/-- the two variables hold what the program lays into them -/
def Laid (w : World) : Prop :=
  (∃ bm, bm < w.heap.size ∧ w.cell? ⟨0, 0, none⟩ = some (.map (some bm)) ∧ ∀ w' : World, w'.heap[bm]? = w.heap[bm]? → ∀ u : ByteArray, u.size ≤ maxLen → (Instr.lookup 72 (.map (some bm)) (.string u) true).run Tryd.prog w' = .ok (unitVal u.data.toList) w') ∧
  ∃ t v, w.cell? ⟨1, 0, none⟩ = some (.iface t v)

theorem atKey_unit (u : List UInt8) : (Rows.laid_time_unitMap (H := Unit)).atKey (.string u) .nil = (match unitBy u with | some b => .lit (.int .u64 (b : Int)) | none => .nil) := by
  have sk : ∀ a b : List UInt8, Lit.sameKey (.string a) (.string b) = decide (a = b) := by intro a b; show (a == b) = _; by_cases h : a = b <;> simp [h]
  by_cases h0 : u = [104]
  · subst h0; rfl
  by_cases h1 : u = [109]
  · subst h1; rfl
  by_cases h2 : u = [109, 115]
  · subst h2; rfl
  by_cases h3 : u = [110, 115]
  · subst h3; rfl
  by_cases h4 : u = [115]
  · subst h4; rfl
  by_cases h5 : u = [117, 115]
  · subst h5; rfl
  by_cases h6 : u = [194, 181, 115]
  · subst h6; rfl
  by_cases h7 : u = [206, 188, 115]
  · subst h7; rfl
  have k0 : decide ([104] = u) = false := decide_eq_false (fun e => h0 e.symm)
  have k1 : decide ([109] = u) = false := decide_eq_false (fun e => h1 e.symm)
  have k2 : decide ([109, 115] = u) = false := decide_eq_false (fun e => h2 e.symm)
  have k3 : decide ([110, 115] = u) = false := decide_eq_false (fun e => h3 e.symm)
  have k4 : decide ([115] = u) = false := decide_eq_false (fun e => h4 e.symm)
  have k5 : decide ([117, 115] = u) = false := decide_eq_false (fun e => h5 e.symm)
  have k6 : decide ([194, 181, 115] = u) = false := decide_eq_false (fun e => h6 e.symm)
  have k7 : decide ([206, 188, 115] = u) = false := decide_eq_false (fun e => h7 e.symm)
  have hn : unitBy u = none := by
    unfold unitBy
    rw [if_neg h3, if_neg h5, if_neg h6, if_neg h7, if_neg h2, if_neg h4, if_neg h1, if_neg h0]
  rw [hn]
  simp only [Rows.laid_time_unitMap, DataW.atKey, List.find?, sk, k0, k1, k2, k3, k4, k5, k6, k7]

theorem of_laid {W : World} (h : laidMetH Tryd.prog [("time.errLeadingInt", Rows.laid_time_errLeadingInt), ("time.unitMap", Rows.laid_time_unitMap)] W) : Laid W := by
  rw [MakeChecks.laidMetH_plain _ _ _ (by kernel_rfl)] at h
  obtain ⟨ps, ⟨g0, t0, cs0, f0, p0, q0, hg0, ht0, hv0, hd0, ⟨g1, t1, cs1, f1, p1, q1, hg1, ht1, hv1, hd1, _, _⟩, _⟩, _, _⟩ := h
  obtain rfl := Option.some.inj (gErr.symm.trans hg0)
  obtain rfl := Option.some.inj (tErr.symm.trans ht0)
  obtain rfl := Option.some.inj (gUnit.symm.trans hg1)
  obtain rfl := Option.some.inj (tUnit.symm.trans ht1)
  constructor
  · rcases open_map Tryd.underlying72 hd1 with ⟨_, hx⟩ | ⟨bm, es, clock, m, rfl, hcs, hb, _, F, hx⟩
    · simp [Rows.laid_time_unitMap] at hx
    simp only [Prod.mk.injEq] at hx
    have hcell : W.cell? ⟨0, 0, none⟩ = some (.map (some bm)) := by
      have := World.var?_cell hg1 hv1 0
      rw [Array.eq_one_of_toList hcs] at this
      simpa using this
    have hlt : bm < W.heap.size := by
      rcases Nat.lt_or_ge bm W.heap.size with h | h
      · exact h
      · rw [Array.getElem?_eq_none h] at hb; cases hb
    refine ⟨bm, hlt, hcell, fun w' hw' u hu => ?_⟩
    have zero : (zeroValue 29).run Tryd.prog w' = .ok (.int .u64 0) w' := by kernel_rfl
    rw [hb] at hw'
    have key := atKey_unit u.data.toList
    unfold unitVal
    rcases fit_lookup_ok (w := w') strLaw Tryd.underlying72 zero hw' F (keyOf_string_mk (s := u) Tryd.underlying9 hu) with ⟨hrun, hat⟩ | ⟨v, y, hrun, hRv, hat, _⟩
    · have := hat .nil
      rw [← hx.1] at this
      rw [hrun]
      have e2 := key.symm.trans this
      cases hu2 : unitBy u.data.toList with
      | none => rfl
      | some b => rw [hu2] at e2; cases e2
    · obtain ⟨r, rfl, rfl, _⟩ := elemAt_int Tryd.underlying29 hRv
      have := hat .nil
      rw [← hx.1] at this
      rw [hrun]
      have e2 := key.symm.trans this
      cases hu2 : unitBy u.data.toList with
      | none => rw [hu2] at e2; cases e2
      | some b => rw [hu2] at e2; cases e2; rfl
  · obtain ⟨f, t, v, hcs, _⟩ := iface_of_trod Tryd.underlying50 hd0
    refine ⟨t, v, ?_⟩
    have := World.var?_cell hg0 hv0 0
    rw [Array.eq_one_of_toList hcs] at this
    simpa using this

theorem cell_lt {W : World} {b o : Nat} {v : Value} (h : W.cell? ⟨b, o, none⟩ = some v) : b < W.heap.size := by
  rcases Nat.lt_or_ge b W.heap.size with h1 | h1
  · exact h1
  · unfold World.cell? at h
    rw [Array.getElem?_eq_none h1] at h
    cases h

theorem Laid.below {w w' : World} (h : Laid w) (hb : Below w.heap.size w w') : Laid w' := by
  obtain ⟨⟨bm, hl, hc, hr⟩, t, v, he⟩ := h
  refine ⟨⟨bm, Nat.lt_of_lt_of_le hl hb.size, ?_, fun w2 h2 => hr w2 (h2.trans (hb.block bm hl))⟩, t, v, ?_⟩
  · rw [hb.cell (p := ⟨_, 0, none⟩) (cell_lt hc)]; exact hc
  · rw [hb.cell (p := ⟨_, 0, none⟩) (cell_lt he)]; exact he

end Go.Proofs.YteejjhdfebhagaaDoor
