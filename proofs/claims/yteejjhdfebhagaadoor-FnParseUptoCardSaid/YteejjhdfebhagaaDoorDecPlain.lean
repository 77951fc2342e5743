/- Plain steps of decimal texts, and a slice of one byte as a string. -/
import Derived.Test.YteejjhdfebhagaaDoorStringW
namespace Go.Proofs.YteejjhdfebhagaaDoor
open Go.ChangeShapes Go.WideShapes Go.ChangeAt Go.RowKit
set_option linter.unusedVariables false

theorem grown_trans {a b c : World} (h : Grown a b) (k : Grown b c) : Grown a c :=
  ⟨World.keptBut_trans h.1 k.1, fun x => (k.2.1 x).trans (h.2.1 x), Nat.le_trans h.2.2 k.2.2⟩

theorem dec_small {n : Nat} (h : n < 10) : dec n = [dg n] := by
  unfold dec
  split
  · rename_i h0; subst h0; rfl
  · rename_i h0; rw [digs_pos h0, Nat.div_eq_of_lt h, digs_zero]; rfl

theorem dg_mod (n : Nat) : dg (n % 10) = dg n := by unfold dg; rw [Nat.mod_mod]

theorem dec_step {n : Nat} (h : 10 ≤ n) : dec n = dec (n / 10) ++ dec (n % 10) := by
  rw [dec_small (Nat.mod_lt n (by omega)), dg_mod]
  have h1 : dec n = digs n := by unfold dec; rw [if_neg (by omega)]
  have h2 : dec (n / 10) = digs (n / 10) := by unfold dec; rw [if_neg (by omega)]
  rw [h1, h2, digs_pos (by omega)]

theorem one_string {T : TypeId} (w : World) (c : Nat) (b : UInt8) :
    (convert 53 9 (.slice (some ⟨w.heap.size, 0, none⟩) 1 c)).run Tryd.prog (w.alloc (.cells #[Value.int .u8 (b.toNat : Int)] T)) = .ok (.string ⟨#[b]⟩) (w.alloc (.cells #[Value.int .u8 (b.toNat : Int)] T)) :=
  tail_string (E := T) w 1 0 c [b] rfl

theorem ret_str {a b : ByteArray} (h : a = b) : Ending.returned (.string a) = .returned (.string b) := by rw [h]

end Go.Proofs.YteejjhdfebhagaaDoor
