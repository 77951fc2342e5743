/- laws.decimal returns the decimal text of its number, for every uint64; the world has at most new blocks. -/
import Derived.Test.YteejjhdfebhagaaDoorDecPlain
import Derived.Test.YteejjhdfebhagaaDoorBel
namespace Go.Proofs.YteejjhdfebhagaaDoor
open Go.ChangeShapes Go.WideShapes Go.ChangeAt Go.RowKit
set_option linter.unusedVariables false

theorem decB_base (n : Int) (w : World) (h0 : 0 ≤ n) (h1 : n < 10) :
    Calls Tryd.prog 20 #[.int .u64 n] w fun e w' => e = .returned (.string ⟨(dec n.toNat).toArray⟩) ∧ Bel w w' := by
  rw [dec_small (by omega)]
  have hb : ((dg n.toNat).toNat : Int) = 48 + n := by rw [dg_toNat]; omega
  obtain ⟨b, hbe⟩ : ∃ b, dg n.toNat = b := ⟨_, rfl⟩
  rw [hbe] at hb ⊢
  have hcv := fun c T => one_string (T := T) w c b
  rw [hb] at hcv
  clear hb hbe
  go_enter Tryd.func20, Tryd.ntmps20
  go_wp2
  go_ret
  exact ⟨rfl, (Bel.refl _).alloc _ _⟩

theorem decB_step (v : Int) (l1 l2 : List UInt8) (w : World) (h1 : 10 ≤ v) (h2 : v < 18446744073709551616) (z1 : l1.length ≤ 1000) (z2 : l2.length ≤ 1000)
    (C1 : Hid (∀ w, Calls Tryd.prog 20 #[.int .u64 (v / 10)] w fun e w' => e = .returned (.string ⟨l1.toArray⟩) ∧ Bel w w'))
    (C2 : Hid (∀ w, Calls Tryd.prog 20 #[.int .u64 (v % 10)] w fun e w' => e = .returned (.string ⟨l2.toArray⟩) ∧ Bel w w')) :
    Calls Tryd.prog 20 #[.int .u64 v] w fun e w' => e = .returned (.string ⟨(l1 ++ l2).toArray⟩) ∧ Bel w w' := by
  go_enter Tryd.func20, Tryd.ntmps20
  go_wp2_with fail
  refine (C1.out _).mono ?_
  rintro e w1 ⟨rfl, g1⟩
  have G1 := Lib.hid g1
  clear g1
  go_wp2_with fail
  refine (C2.out _).mono ?_
  rintro e w2 ⟨rfl, g2⟩
  have G2 := Lib.hid g2
  clear g2
  go_wp2
  go_ret
  exact ⟨ret_str (ByteArray.mk_append_mk _ _), bel_trans G1.out G2.out⟩

theorem decB_nat (k : Nat) : ∀ (n : Nat) (w : World), n < 10 ^ (k + 1) → n < 18446744073709551616 →
    Calls Tryd.prog 20 #[.int .u64 (n : Int)] w fun e w' => e = .returned (.string ⟨(dec n).toArray⟩) ∧ Bel w w' := by
  induction k with
  | zero =>
    intro n w hn _
    have := decB_base n w (by omega) (by omega)
    rw [Int.toNat_natCast] at this
    exact this
  | succ k ih =>
    intro n w hn hb
    by_cases h : n < 10
    · have := decB_base n w (by omega) (by omega)
      rw [Int.toNat_natCast] at this
      exact this
    · have hs : dec n = dec (n / 10) ++ dec (n % 10) := dec_step (by omega)
      have c1 := fun w => ih (n / 10) w (by rw [Nat.pow_succ] at hn; omega) (by omega)
      have c2 := fun w => decB_base ((n % 10 : Nat) : Int) w (by omega) (by omega)
      rw [Int.toNat_natCast] at c2
      have q1 : ((n / 10 : Nat) : Int) = (n : Int) / 10 := by omega
      have q2 : ((n % 10 : Nat) : Int) = (n : Int) % 10 := by omega
      rw [q1] at c1
      rw [q2] at c2
      obtain ⟨l1, e1⟩ : ∃ l, dec (n / 10) = l := ⟨_, rfl⟩
      obtain ⟨l2, e2⟩ : ∃ l, dec (n % 10) = l := ⟨_, rfl⟩
      rw [e1] at c1 hs
      rw [e2] at c2 hs
      rw [hs]
      exact decB_step n l1 l2 w (by omega) (by omega) (by rw [← e1]; have := dec_len (k := 20) (n := n / 10) (by omega) (by omega); omega) (by rw [← e2]; have := dec_len (k := 20) (n := n % 10) (by omega) (by omega); omega) c1 c2

theorem decB_is {v : Int} {l : List UInt8} (w : World) (h0 : 0 ≤ v) (h1 : v < 18446744073709551616) (hl : dec v.toNat = l) :
    Calls Tryd.prog 20 #[.int .u64 v] w fun e w' => e = .returned (.string ⟨l.toArray⟩) ∧ Bel w w' := by
  subst hl
  have hv : v.toNat < 10 ^ (19 + 1) := Nat.lt_trans (show v.toNat < 18446744073709551616 by omega) (by decide)
  have := decB_nat 19 v.toNat w hv (by omega)
  rw [Int.toNat_of_nonneg h0] at this
  exact this

end Go.Proofs.YteejjhdfebhagaaDoor
