/- laws.padded returns the number in decimal with zeros in front, for one to eleven digits and every number of so many; the world has at most new blocks. -/
import Derived.Test.YteejjhdfebhagaaDoorDecB
import Derived.Test.YteejjhdfebhagaaDoorPadPlain
import Derived.Test.YteejjhdfebhagaaDoorParseHelp
namespace Go.Proofs.YteejjhdfebhagaaDoor
open Go.ChangeShapes Go.WideShapes Go.ChangeAt Go.RowKit
set_option linter.unusedVariables false

def slenB : Value → Nat
  | .string s => s.size
  | _ => 0

set_option maxHeartbeats 4000000 in
theorem padB_is (v : Int) (m : Nat) (w : World) (h0 : 0 ≤ v) (hm1 : 1 ≤ m) (hm : m ≤ 11) (hv : v.toNat < 10 ^ m) (h1 : v < 18446744073709551616) :
    Calls Tryd.prog 26 #[.int .u64 v, .int .i64 (m : Int)] w fun e w' => e = .returned (.string ⟨(pads m v.toNat).toArray⟩) ∧ Bel w w' := by
  have hp := pads_dec m v.toNat hm1 hv
  have hz := dec_len (k := m) (n := v.toNat) hm1 hv
  obtain ⟨x, hx⟩ : ∃ x, dec v.toNat = x := ⟨_, rfl⟩
  rw [hx] at hp hz
  rw [hp]
  have X := Lib.hid hx
  clear hp hx hv
  go_enter Tryd.func26, Tryd.ntmps26
  go_wp2_with fail
  refine (decB_is _ h0 h1 X.out).mono ?_
  rintro e v1 ⟨rfl, g1⟩
  have G1 := Lib.hid g1
  clear g1
  go_wp2
  go_loop [5] (fun s => ∃ j : Nat, x.length + j ≤ m ∧ s = .string ⟨(List.replicate j 48 ++ x).toArray⟩) (fun s => m - slenB s)
  case atStart => exact ⟨0, by omega, rfl⟩
  case round =>
    obtain ⟨j, hj, rfl⟩ := hrel
    obtain ⟨l, hl⟩ : ∃ l, List.replicate j 48 ++ x = l := ⟨_, rfl⟩
    have hll : l.length = j + x.length := by rw [← hl]; simp
    rw [hl]
    by_cases hlt : j + x.length < m
    · have z1 : l.length < m := by omega
      have z2 : (l.length : Int) < (m : Int) := by omega
      have HL := Lib.hid hl
      have HLL := Lib.hid hll
      clear hl hll
      go_wp2
      go_round
      case rel =>
        refine ⟨j + 1, by omega, ?_⟩
        rw [List.replicate_succ, List.cons_append, HL.out]
        exact congrArg Value.string (ByteArray.mk_append_mk [48] l)
      case measure =>
        simp [slenB, ByteArray.size]
        omega
    · have z1 : ¬ (l.length : Int) < (m : Int) := by omega
      have z2 : (m : Int) ≤ (l.length : Int) := by omega
      have z3 : decide (l.length < m) = false := by simp; omega
      have hj9 : m - x.length = j := by omega
      have HL := Lib.hid hl
      have HJ := Lib.hid hj9
      clear hl hll hj9
      go_wp2
      go_ret
      rw [HJ.out, HL.out]
      exact ⟨rfl, G1.out⟩

theorem pads_digits (m n : Nat) (hm : 1 ≤ m) (h : n < 10 ^ m) : digits (pads m n) ∧ dval (pads m n) 0 = n := by
  rw [pads_dec m n hm h]
  have hz : ∀ z, digits (List.replicate z 48) ∧ dval (List.replicate z 48) 0 = 0 := by
    intro z
    constructor
    · intro c hc
      have := (List.mem_replicate.1 hc).2
      subst this
      rfl
    · induction z with
      | zero => rfl
      | succ z ih => rw [List.replicate_succ, dval_cons]; exact ih
  exact ⟨digits_append (hz _).1 (digits_dec n), by rw [dval_append, (hz _).2, dval_dec]⟩

end Go.Proofs.YteejjhdfebhagaaDoor
