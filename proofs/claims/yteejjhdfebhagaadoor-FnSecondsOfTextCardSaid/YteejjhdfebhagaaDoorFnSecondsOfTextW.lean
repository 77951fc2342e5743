/- The law FnSecondsOfText returns true for every input, where the listed package variables hold what the program lays into them. The whole seconds of a text of whole seconds are those of the number. -/
import Derived.Test.YteejjhdfebhagaaDoorRows
import Derived.WalkKit
import Derived.ProofKit
import Derived.OpenShut
import Derived.Test.YteejjhdfebhagaaDoorLawsW
import Derived.Test.YteejjhdfebhagaaDoorSecW
import Derived.WalkLawsBesides
namespace Go.Proofs.YteejjhdfebhagaaDoor.fnSecondsOfText
open Go.ChangeShapes Go.WideShapes Go.ChangeAt Go.RowKit
set_option linter.unusedVariables false

theorem text {n : Int} (h0 : 0 ≤ n) (h1 : n ≤ 9223372036) {l : List UInt8} (hl : dec n.toNat = l) : Reads (l ++ [115]) (n * 1000000000) true := by
  subst hl
  have h := num_plain vf (digits_dec n.toNat) (dec_ne n.toNat) (u := [115]) (by decide) (units_of (by decide)) (b := 1000000000) (by decide) (by decide)
  rw [dval_dec, if_pos (by unfold two63; omega)] at h
  refine Or.inl ⟨rfl, h.trans ?_⟩
  congr 1
  omega
theorem hv_sec (n : Int) (h0 : 0 ≤ n) (h1 : n ≤ 9223372036) : Fl.hv 1000000000 (n * 1000000000) = n * Fl.K := by
  have h := Fl.hv_quarters 1000000000 250000000 rfl (by decide) Fl.fq_sec.1 Fl.fq_sec.2.1 Fl.fq_sec.2.2 (4 * n) (Nat.lt_of_le_of_lt (show (4 * n).natAbs ≤ 36893488144 by omega) (by decide +kernel))
  rw [show (4 * n) * ((250000000 : Nat) : Int) = n * 1000000000 by omega] at h
  rw [h, Fl.K_Q4, Int.natCast_mul]
  generalize (Fl.Q4 : Int) = Q
  rw [show ((4 : Nat) : Int) = 4 from rfl, Int.mul_comm 4 n, Int.mul_assoc]

set_option maxHeartbeats 4000000 in
theorem walk (a0 : Int) (w0 : (Lit.int .i64 a0).wf = true) (w : World) (hL : laidMetH Tryd.prog Rows.fnSecondsOfTextRow.laid w) :
    Calls Tryd.prog 5 #[.int .i64 a0] w fun e w' => e = .returned (.bool true) ∧ Bel w w' := by
  obtain ⟨b01, b02⟩ := bounds_of w0
  have HL := Lib.hid (of_laid hL)
  clear w0 hL
  by_cases c0 : a0 < 0
  · go_enter Tryd.func5, Tryd.ntmps5
    go_wp2
    go_ret
    exact ⟨rfl, Bel.refl _⟩
  by_cases c1 : 9223372036 < a0
  · go_enter Tryd.func5, Tryd.ntmps5
    go_wp2
    go_ret
    exact ⟨rfl, Bel.refl _⟩
  have h0 : 0 ≤ a0 := by omega
  have h1 : a0 ≤ 9223372036 := by omega
  clear c0 c1
  obtain ⟨l, hl⟩ : ∃ l, dec a0.toNat = l := ⟨_, rfl⟩
  have hl1 : l.length ≤ 20 := by rw [← hl]; exact dec_20 (by omega)
  have q1 := Lib.hid (text h0 h1 hl)
  have HLU := Lib.hid hl
  clear hl
  obtain ⟨z, iz, cz⟩ := seconds_any (d := a0 * 1000000000) (by omega) (by omega)
  rw [hv_sec a0 h0 h1] at iz
  have i2 : Fl.Is (floatOfInt .f64 a0) (a0 * Fl.K) := Fl.exact_int a0 (Nat.lt_of_le_of_lt (show a0.natAbs ≤ 9223372036 by omega) (by decide +kernel))
  have ho := ord_eq iz i2 rfl
  have CZ := Lib.hid cz
  have ht : (a0 * 1000000000).tdiv 1000000 = a0 * 1000 := by
    rw [Int.tdiv_eq_ediv_of_nonneg (by omega)]; omega
  have CM := Lib.hid (fun w => milli_any (a0 * 1000000000) w (by omega) (by omega))
  rw [ht] at CM
  clear iz i2 cz ht
  go_enter Tryd.func5, Tryd.ntmps5
  go_wp2_with fail
  refine (decB_is _ h0 (by omega) HLU.out).mono ?_
  rintro e v1 ⟨rfl, g1⟩
  have G1 := Lib.hid g1
  clear g1
  go_wp2_with fail
  refine (parse_is _ (a0 * 1000000000) true _ (by rw [sz_app]; show l.length + 1 ≤ _; omega) (HL.out.bel G1.out) (by rw [dl_app]; exact q1.out)).mono ?_
  rintro e v2 ⟨rfl, g2⟩
  have G2 := Lib.hid (G1.out.trans g2)
  clear g2
  go_wp2_with fail
  refine (CZ.out _).mono ?_
  rintro e w' ⟨rfl, rfl⟩
  go_wp2_with fail
  refine (CM.out _).mono ?_
  rintro e w' ⟨rfl, rfl⟩
  go_wp2
  go_ret
  exact ⟨ret_bool (by first | rfl | (simp; done)), G2.out⟩

end Go.Proofs.YteejjhdfebhagaaDoor.fnSecondsOfText
