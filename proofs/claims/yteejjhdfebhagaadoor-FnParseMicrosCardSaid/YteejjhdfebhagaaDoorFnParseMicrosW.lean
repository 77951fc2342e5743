/- The law FnParseMicros returns true for every input, where the listed package variables hold what the program lays into them. The three names of the microsecond are the same. -/
import Derived.Test.YteejjhdfebhagaaDoorRows
import Derived.WalkKit
import Derived.ProofKit
import Derived.OpenShut
import Derived.Test.YteejjhdfebhagaaDoorLawsW
import Derived.Test.YteejjhdfebhagaaDoorUBounds
namespace Go.Proofs.YteejjhdfebhagaaDoor.fnParseMicros
open Go.ChangeShapes Go.WideShapes Go.ChangeAt Go.RowKit
set_option linter.unusedVariables false

theorem one {n k : Nat} (hk : k ≤ 7) (hb : uby k = 1000) {l : List UInt8} (hl : dec n = l) : parse vf (l ++ uname k) = if n * 1000 ≤ two63 - 1 then some ((n * 1000 : Nat) : Int) else none := by
  subst hl
  have h1 := num_plain vf (digits_dec n) (dec_ne n) (uname_ne hk) (uname_units hk) (uname_by hk) (uby_pos k)
  rw [dval_dec, hb] at h1
  exact h1

set_option maxHeartbeats 4000000 in
theorem walk (a0 : Int) (w0 : (Lit.int .u64 a0).wf = true) (w : World) (hL : laidMetH Tryd.prog Rows.fnParseMicrosRow.laid w) :
    Calls Tryd.prog 8 #[.int .u64 a0] w fun e w' => e = .returned (.bool true) ∧ Bel w w' := by
  obtain ⟨b01, b02⟩ := ubounds_of w0
  have HL := Lib.hid (of_laid hL)
  clear w0 hL
  obtain ⟨l, hl⟩ : ∃ l, dec a0.toNat = l := ⟨_, rfl⟩
  have hl1 : l.length ≤ 20 := by rw [← hl]; exact dec_20 (by omega)
  have r1 := one (k := 1) (by decide) rfl hl
  have r2 := one (k := 2) (by decide) rfl hl
  have r3 := one (k := 3) (by decide) rfl hl
  have HLU := Lib.hid hl
  clear hl
  by_cases h : a0 ≤ 9223372036854775
  · have hX : ((a0.toNat * 1000 : Nat) : Int) = a0 * 1000 := by omega
    have q1 : Hid (Reads (l ++ [117, 115]) (a0 * 1000) true) := Lib.hid (Or.inl ⟨rfl, by rw [← hX]; exact r1.trans (if_pos (by unfold two63; omega))⟩)
    have q2 : Hid (Reads (l ++ [194, 181, 115]) (a0 * 1000) true) := Lib.hid (Or.inl ⟨rfl, by rw [← hX]; exact r2.trans (if_pos (by unfold two63; omega))⟩)
    have q3 : Hid (Reads (l ++ [206, 188, 115]) (a0 * 1000) true) := Lib.hid (Or.inl ⟨rfl, by rw [← hX]; exact r3.trans (if_pos (by unfold two63; omega))⟩)
    clear r1 r2 r3 hX
    go_enter Tryd.func8, Tryd.ntmps8
    go_wp2_with fail
    refine (decB_is _ b01 (by omega) HLU.out).mono ?_
    rintro e v1 ⟨rfl, g1⟩
    have G1 := Lib.hid (g1)
    clear g1
    go_wp2_with fail
    refine (parse_is _ (a0 * 1000) true _ (by rw [sz_app]; show l.length + 2 ≤ _; omega) (HL.out.bel G1.out) (by rw [dl_app]; exact q1.out)).mono ?_
    rintro e v2 ⟨rfl, g2⟩
    have G2 := Lib.hid (G1.out.trans g2)
    clear g2
    go_wp2_with fail
    refine (decB_is _ b01 (by omega) HLU.out).mono ?_
    rintro e v3 ⟨rfl, g3⟩
    have G3 := Lib.hid (G2.out.trans g3)
    clear g3
    go_wp2_with fail
    refine (parse_is _ (a0 * 1000) true _ (by rw [sz_app]; show l.length + 3 ≤ _; omega) (HL.out.bel G3.out) (by rw [dl_app]; exact q2.out)).mono ?_
    rintro e v4 ⟨rfl, g4⟩
    have G4 := Lib.hid (G3.out.trans g4)
    clear g4
    go_wp2_with fail
    refine (decB_is _ b01 (by omega) HLU.out).mono ?_
    rintro e v5 ⟨rfl, g5⟩
    have G5 := Lib.hid (G4.out.trans g5)
    clear g5
    go_wp2_with fail
    refine (parse_is _ (a0 * 1000) true _ (by rw [sz_app]; show l.length + 3 ≤ _; omega) (HL.out.bel G5.out) (by rw [dl_app]; exact q3.out)).mono ?_
    rintro e v6 ⟨rfl, g6⟩
    have G6 := Lib.hid (G5.out.trans g6)
    clear g6
    go_wp2
    go_ret
    exact ⟨ret_bool (by first | rfl | (simp; done) | (simp; omega)), G6.out⟩
  · have q1 : Hid (Reads (l ++ [117, 115]) 0 false) := Lib.hid (Or.inr ⟨rfl, rfl, r1.trans (if_neg (by unfold two63; omega))⟩)
    have q2 : Hid (Reads (l ++ [194, 181, 115]) 0 false) := Lib.hid (Or.inr ⟨rfl, rfl, r2.trans (if_neg (by unfold two63; omega))⟩)
    have q3 : Hid (Reads (l ++ [206, 188, 115]) 0 false) := Lib.hid (Or.inr ⟨rfl, rfl, r3.trans (if_neg (by unfold two63; omega))⟩)
    clear r1 r2 r3
    have h' : 9223372036854775 < a0 := by omega
    go_enter Tryd.func8, Tryd.ntmps8
    go_wp2_with fail
    refine (decB_is _ b01 (by omega) HLU.out).mono ?_
    rintro e v1 ⟨rfl, g1⟩
    have G1 := Lib.hid (g1)
    clear g1
    go_wp2_with fail
    refine (parse_is _ 0 false _ (by rw [sz_app]; show l.length + 2 ≤ _; omega) (HL.out.bel G1.out) (by rw [dl_app]; exact q1.out)).mono ?_
    rintro e v2 ⟨rfl, g2⟩
    have G2 := Lib.hid (G1.out.trans g2)
    clear g2
    go_wp2_with fail
    refine (decB_is _ b01 (by omega) HLU.out).mono ?_
    rintro e v3 ⟨rfl, g3⟩
    have G3 := Lib.hid (G2.out.trans g3)
    clear g3
    go_wp2_with fail
    refine (parse_is _ 0 false _ (by rw [sz_app]; show l.length + 3 ≤ _; omega) (HL.out.bel G3.out) (by rw [dl_app]; exact q2.out)).mono ?_
    rintro e v4 ⟨rfl, g4⟩
    have G4 := Lib.hid (G3.out.trans g4)
    clear g4
    go_wp2_with fail
    refine (decB_is _ b01 (by omega) HLU.out).mono ?_
    rintro e v5 ⟨rfl, g5⟩
    have G5 := Lib.hid (G4.out.trans g5)
    clear g5
    go_wp2_with fail
    refine (parse_is _ 0 false _ (by rw [sz_app]; show l.length + 3 ≤ _; omega) (HL.out.bel G5.out) (by rw [dl_app]; exact q3.out)).mono ?_
    rintro e v6 ⟨rfl, g6⟩
    have G6 := Lib.hid (G5.out.trans g6)
    clear g6
    go_wp2
    go_ret
    exact ⟨ret_bool (by first | rfl | (simp; done) | (simp; omega)), G6.out⟩

end Go.Proofs.YteejjhdfebhagaaDoor.fnParseMicros
