/- laws.padded with 9 digits returns the number in decimal with zeros in front, for every number below 10^9. -/
import Derived.Test.YtkagbpnmdflhjaaDecW
import Derived.Test.YtkagbpnmdflhjaaPadPlain
namespace Go.Proofs.Ytkagbpnmdflhjaa
open Go.ChangeShapes Go.WideShapes Go.ChangeAt Go.RowKit
set_option linter.unusedVariables false

def slen : Value → Nat
  | .string s => s.size
  | _ => 0

theorem padded_is (v : Int) (w : World) (h0 : 0 ≤ v) (h1 : v < 1000000000) :
    Calls Try.prog 14 #[.int .u64 v, .int .i64 9] w fun e w' => e = .returned (.string ⟨(pads 9 v.toNat).toArray⟩) ∧ Grown w w' := by
  have hp := pads_dec 9 v.toNat (by omega) (by omega)
  have hz := dec_len (k := 9) (n := v.toNat) (by omega) (by omega)
  obtain ⟨x, hx⟩ : ∃ x, dec v.toNat = x := ⟨_, rfl⟩
  rw [hx] at hp hz
  rw [hp]
  have X := Lib.hid hx
  clear hp hx
  go_enter Try.func14, Try.ntmps14
  go_wp2_with fail
  refine (decimal_is _ h0 (by omega) X.out).mono ?_
  rintro e v1 ⟨rfl, g1⟩
  have G1 := Lib.hid g1
  clear g1
  go_wp2
  go_loop [5] (fun s => ∃ j : Nat, x.length + j ≤ 9 ∧ s = .string ⟨(List.replicate j 48 ++ x).toArray⟩) (fun s => 9 - slen s)
  case atStart => exact ⟨0, by omega, rfl⟩
  case round =>
    obtain ⟨j, hj, rfl⟩ := hrel
    obtain ⟨l, hl⟩ : ∃ l, List.replicate j 48 ++ x = l := ⟨_, rfl⟩
    have hll : l.length = j + x.length := by rw [← hl]; simp
    rw [hl]
    by_cases hlt : j + x.length < 9
    · have z1 : l.length < 9 := by omega
      have z2 : (l.length : Int) < 9 := by omega
      have HL := Lib.hid hl
      have HLL := Lib.hid hll
      clear hl hll
      go_wp2
      go_round
      case rel =>
        refine ⟨j + 1, by omega, ?_⟩
        rw [List.replicate_succ, List.cons_append, HL.out]
        exact congrArg Value.string (ByteArray.mk_append_mk [48] l)
      case measure =>
        simp [slen, ByteArray.size]
        omega
    · have z1 : ¬ (l.length : Int) < 9 := by omega
      have z2 : 9 ≤ (l.length : Int) := by omega
      have hj9 : 9 - x.length = j := by omega
      have HL := Lib.hid hl
      have HJ := Lib.hid hj9
      clear hl hll hj9
      go_wp2
      go_ret
      rw [HJ.out, HL.out]
      exact ⟨rfl, G1.out⟩
end Go.Proofs.Ytkagbpnmdflhjaa
