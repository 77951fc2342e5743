/- The law FnParseFraction returns true for every input, where the listed package variables hold what the program lays into them. A fraction of as many digits as the unit has places adds as many nanoseconds as its digits make with the unit's parts. -/
import Derived.Test.YteejjhdfebhagaaDoorRows
import Derived.WalkKit
import Derived.ProofKit
import Derived.OpenShut
import Derived.Test.YteejjhdfebhagaaDoorLawsW
import Derived.Test.YteejjhdfebhagaaDoorUBounds
import Derived.Test.YteejjhdfebhagaaDoorAddsStr
import Derived.Test.YteejjhdfebhagaaDoorPadB
import Derived.Deep.LoopGhost
import Derived.Outline
namespace Go.Proofs.YteejjhdfebhagaaDoor.fnParseFraction
open Go.ChangeShapes Go.WideShapes Go.ChangeAt Go.RowKit
set_option linter.unusedVariables false

theorem fraction {n f m k q : Nat} (hk : k ≤ 7) (hn : n ≤ 1000000) (hm : 1 ≤ m) (hm2 : m ≤ 11) (hq : uby k = q * 10 ^ m) (hf : f < 10 ^ m) {l p u : List UInt8} (hl : dec n = l) (hp : pads m f = p) (hu : uname k = u) :
    parse vf (l ++ [46] ++ p ++ u) = if n * uby k + f * q ≤ two63 - 1 then some ((n * uby k + f * q : Nat) : Int) else none := by
  subst hl
  subst hp
  subst hu
  obtain ⟨d1, d2⟩ := pads_digits m f hm hf
  have h1 : n * uby k ≤ 1000000 * 3600000000000 := Nat.mul_le_mul hn (uby_le k)
  have h2 : f * q ≤ uby k := by rw [hq, Nat.mul_comm]; exact Nat.mul_le_mul_left _ (Nat.le_of_lt hf)
  have h3 := uby_le k
  have h4 : 10 ^ m ≤ 10 ^ 11 := Nat.pow_le_pow_right (by decide) hm2
  have h5 : (10 : Nat) ^ 11 < two63 := by decide +kernel
  have A := adds_point vf (A := dec n) (B := pads m f) (x := f * q) (digits_dec n) d1 (Or.inl (dec_ne n)) (uname_ne hk) (uname_units hk) (uname_by hk) (uby_pos k) (by rw [d2]; omega) (by
    rw [d2, pads_len]
    rcases Nat.eq_zero_or_pos f with h | h
    · exact Or.inl ⟨h, by rw [h, Nat.zero_mul]⟩
    · exact Or.inr ⟨h, vf_exact f (uby k) m q hq (uby_is hk) hf⟩) (by rw [dval_dec]; unfold two63; omega)
  rw [dval_dec] at A
  have e : dec n ++ [46] ++ pads m f ++ uname k = dec n ++ (46 :: (pads m f ++ uname k)) := by simp
  rw [e]
  obtain ⟨l1, l2⟩ := long_of (dec_ne n) (List.cons_ne_nil 46 (pads m f ++ uname k))
  exact A.parse (by unfold two64; omega) (unsign_app (digits_dec n) (dec_ne n) _) l1 l2

set_option maxHeartbeats 4000000 in
theorem walk0 (a0 a1 a2 : Int) (b01 : 0 ≤ a0) (b02 : a0 ≤ 1000000) (b11 : 0 ≤ a1) (b12 : a1 ≤ 18446744073709551615) (b21 : -9223372036854775808 ≤ a2) (b22 : a2 ≤ 9223372036854775807) (w : World) (HL : Hid (Laid w)) :
    Calls Tryd.prog 7 #[.int .u64 a0, .int .u64 a1, .int .i64 a2, .int .i64 0] w fun e w' => e = .returned (.bool true) ∧ Bel w w' := by
  by_cases c0 : a2 < 1
  · go_enter Tryd.func7, Tryd.ntmps7
    go_wp2
    go_ret
    exact ⟨rfl, (Bel.refl _).alloc _ _⟩
  by_cases c1 : 0 < a2
  · have c0' : 1 ≤ a2 := by omega
    go_enter Tryd.func7, Tryd.ntmps7
    go_wp2
    go_ret
    exact ⟨rfl, (Bel.refl _).alloc _ _⟩
  omega

set_option maxHeartbeats 4000000 in
theorem walk1 (a0 a1 a2 : Int) (b01 : 0 ≤ a0) (b02 : a0 ≤ 1000000) (b11 : 0 ≤ a1) (b12 : a1 ≤ 18446744073709551615) (b21 : -9223372036854775808 ≤ a2) (b22 : a2 ≤ 9223372036854775807) (w : World) (HL : Hid (Laid w)) :
    Calls Tryd.prog 7 #[.int .u64 a0, .int .u64 a1, .int .i64 a2, .int .i64 1] w fun e w' => e = .returned (.bool true) ∧ Bel w w' := by
  by_cases c0 : a2 < 1
  · go_enter Tryd.func7, Tryd.ntmps7
    go_wp2
    go_ret
    exact ⟨rfl, (Bel.refl _).alloc _ _⟩
  by_cases c1 : 3 < a2
  · have c0' : 1 ≤ a2 := by omega
    go_enter Tryd.func7, Tryd.ntmps7
    go_wp2
    go_ret
    exact ⟨rfl, (Bel.refl _).alloc _ _⟩
  obtain ⟨m, hma⟩ : ∃ m : Nat, (m : Int) = a2 := ⟨a2.toNat, by omega⟩
  have h1 : 1 ≤ m := by omega
  have h2 : m ≤ 3 := by omega
  subst hma
  clear c0 c1 b21 b22
  obtain ⟨q, hq⟩ : ∃ q, 1000 = q * 10 ^ m := ⟨1000 / 10 ^ m, by rcases (show m = 1 ∨ m = 2 ∨ m = 3 by omega) with rfl | rfl | rfl <;> decide⟩
  have hqd : 1000 / 10 ^ m = q := by rw [hq, Nat.mul_div_cancel _ (Nat.pow_pos (by decide))]
  have hpw : 10 ^ m ≤ 10 ^ 3 := Nat.pow_le_pow_right (by decide) h2
  have hpw2 : (10 : Nat) ^ 3 ≤ 100000000000 := by decide
  obtain ⟨u, hu⟩ : ∃ u, uname 1 = u := ⟨_, rfl⟩
  have hu1 : u.length ≤ 3 := by rw [← hu]; exact (uname_len _).2
  have cU := fun w => unitOf_is (k := 1) (u := u) (B := 1000) w (by decide) (by decide) hu rfl
  have HQ := Lib.hid hq
  have HQD := Lib.hid hqd
  have HPW := Lib.hid hpw
  have HU := Lib.hid hu
  clear hq hqd hpw hu
  go_enter Tryd.func7, Tryd.ntmps7
  go_wp2_with fail
  refine (cU _).mono ?_
  rintro e v1 ⟨rfl, rfl⟩
  clear cU
  go_wp2_with fail
  obtain ⟨W0, hW0⟩ : ∃ W0 : World, W0 = w.alloc (.cells #[.int .i64 0, .int .i64 3, .int .i64 3, .int .i64 3, .int .i64 6, .int .i64 9, .int .i64 10, .int .i64 11] 3) := ⟨_, rfl⟩
  have G0 : Hid (Bel w W0) := Lib.hid (by rw [hW0]; exact (Bel.refl _).alloc _ _)
  rw [← hW0]
  clear hW0
  go_loopg [12, 13, 14] m (fun gk x12 x13 x14 wr => ∃ (i : Nat) (p t : Int), i ≤ m ∧ m - i ≤ gk ∧ 0 ≤ p ∧ p ≤ 3600000000000 ∧ 1 ≤ t ∧ t ≤ 100000000000 ∧ p = ((1000 / 10 ^ i : Nat) : Int) ∧ t = ((10 ^ i : Nat) : Int) ∧ x12 = .int .u64 p ∧ x13 = .int .u64 t ∧ x14 = .int .i64 (i : Int) ∧ W0 = wr)
  case atStart => exact ⟨0, 1000, 1, by omega, by omega, by omega, by omega, by omega, by omega, by decide, by decide, rfl, rfl, rfl, rfl⟩
  case round =>
    obtain ⟨i, p, t, hi1, hi2, hp0, hp1, ht0, ht1, hp, ht, rfl, rfl, rfl, rfl⟩ := hrel
    by_cases hlt : i < m
    · have hp' : p / 10 = ((1000 / 10 ^ (i + 1) : Nat) : Int) := by rw [hp, Nat.pow_succ, ← Nat.div_div_eq_div_mul]; rfl
      have ht' : t * 10 = ((10 ^ (i + 1) : Nat) : Int) := by rw [ht, Nat.pow_succ]; rfl
      have ht2 : t * 10 ≤ 100000000000 := by
        rw [ht']
        have e1 : 10 ^ (i + 1) ≤ 10 ^ m := Nat.pow_le_pow_right (by decide) hlt
        have := HPW.out
        omega
      have HP := Lib.hid hp'
      have HT := Lib.hid ht'
      clear hp ht hp' ht'
      go_wp2_with fail
      go_roundg (m - (i + 1))
      case measure => omega
      case rel => exact ⟨i + 1, p / 10, t * 10, by omega, by omega, by omega, by omega, by omega, by omega, HP.out, HT.out, by go_num, by go_num, by go_num, rfl⟩
    · obtain rfl : i = m := by omega
      rw [HQD.out] at hp
      by_cases hfb : t ≤ a1
      · clear hp ht
        go_wp2_with fail
        go_ret
        exact ⟨rfl, G0.out⟩
      · have hf : a1.toNat < 10 ^ i := by omega
        obtain ⟨l, hl⟩ : ∃ l, dec a0.toNat = l := ⟨_, rfl⟩
        obtain ⟨y, hy⟩ : ∃ y, pads i a1.toNat = y := ⟨_, rfl⟩
        have hl1 : l.length ≤ 20 := by rw [← hl]; exact dec_20 (by omega)
        have hy1 : y.length ≤ 11 := by rw [← hy, pads_len]; omega
        have hfq : a1.toNat * q ≤ 1000 := by rw [HQ.out, Nat.mul_comm]; exact Nat.mul_le_mul_left _ (Nat.le_of_lt hf)
        obtain ⟨Y, hY⟩ : ∃ Y : Int, a1 * p = Y := ⟨_, rfl⟩
        have hYn : ((a1.toNat * q : Nat) : Int) = Y := by rw [← hY, hp, Int.natCast_mul, Int.toNat_of_nonneg b11]
        have hY0 : 0 ≤ Y := by omega
        have hY1 : Y ≤ 3600000000000 := by omega
        have hX : ((a0.toNat * 1000 + a1.toNat * q : Nat) : Int) = a0 * 1000 + Y := by omega
        obtain ⟨D, hD⟩ : ∃ D, fitD (a0 * 1000 + Y) false = D := ⟨_, rfl⟩
        obtain ⟨O, hO⟩ : ∃ O, fitO (a0 * 1000 + Y) false = O := ⟨_, rfl⟩
        have q1 : Hid (Reads (l ++ [46] ++ y ++ u) D O) := Lib.hid (by rw [← hD, ← hO]; exact reads_pos hX (fraction (k := 1) (by decide) (by omega) h1 (by omega) HQ.out hf hl hy HU.out))
        have cF := fun w => fits_is (a0 * 1000 + Y) false w (by omega) (by omega)
        rw [hD, hO] at cF
        have cP := fun w => padB_is a1 i w b11 h1 (by omega) hf (by omega)
        rw [hy] at cP
        have HLU := Lib.hid hl
        clear hp ht hl hy hfq hYn hX hD hO hf
        go_wp2_with fail
        refine (cF _).mono ?_
        rintro e v1 ⟨rfl, rfl⟩
        clear cF
        go_wp2_with fail
        refine (decB_is _ b01 (by omega) HLU.out).mono ?_
        rintro e v1 ⟨rfl, g1⟩
        have G1 := Lib.hid (G0.out.trans g1)
        clear g1
        go_wp2_with fail
        refine (cP _).mono ?_
        rintro e v2 ⟨rfl, g2⟩
        have G2 := Lib.hid (G1.out.trans g2)
        clear g2 cP
        go_wp2_with fail
        refine (parses_yes _ _ _ _ (by rw [sz_app, sz_app, sz_app]; show l.length + 1 + y.length + u.length ≤ _; omega) (HL.out.bel G2.out) (by rw [dl_app, dl_app, dl_app]; exact q1.out)).mono ?_
        rintro e v3 ⟨rfl, g3⟩
        have G3 := Lib.hid (G2.out.trans g3)
        clear g3
        go_wp2
        go_ret
        exact ⟨rfl, G3.out⟩

set_option maxHeartbeats 4000000 in
theorem walk2 (a0 a1 a2 : Int) (b01 : 0 ≤ a0) (b02 : a0 ≤ 1000000) (b11 : 0 ≤ a1) (b12 : a1 ≤ 18446744073709551615) (b21 : -9223372036854775808 ≤ a2) (b22 : a2 ≤ 9223372036854775807) (w : World) (HL : Hid (Laid w)) :
    Calls Tryd.prog 7 #[.int .u64 a0, .int .u64 a1, .int .i64 a2, .int .i64 2] w fun e w' => e = .returned (.bool true) ∧ Bel w w' := by
  by_cases c0 : a2 < 1
  · go_enter Tryd.func7, Tryd.ntmps7
    go_wp2
    go_ret
    exact ⟨rfl, (Bel.refl _).alloc _ _⟩
  by_cases c1 : 3 < a2
  · have c0' : 1 ≤ a2 := by omega
    go_enter Tryd.func7, Tryd.ntmps7
    go_wp2
    go_ret
    exact ⟨rfl, (Bel.refl _).alloc _ _⟩
  obtain ⟨m, hma⟩ : ∃ m : Nat, (m : Int) = a2 := ⟨a2.toNat, by omega⟩
  have h1 : 1 ≤ m := by omega
  have h2 : m ≤ 3 := by omega
  subst hma
  clear c0 c1 b21 b22
  obtain ⟨q, hq⟩ : ∃ q, 1000 = q * 10 ^ m := ⟨1000 / 10 ^ m, by rcases (show m = 1 ∨ m = 2 ∨ m = 3 by omega) with rfl | rfl | rfl <;> decide⟩
  have hqd : 1000 / 10 ^ m = q := by rw [hq, Nat.mul_div_cancel _ (Nat.pow_pos (by decide))]
  have hpw : 10 ^ m ≤ 10 ^ 3 := Nat.pow_le_pow_right (by decide) h2
  have hpw2 : (10 : Nat) ^ 3 ≤ 100000000000 := by decide
  obtain ⟨u, hu⟩ : ∃ u, uname 2 = u := ⟨_, rfl⟩
  have hu1 : u.length ≤ 3 := by rw [← hu]; exact (uname_len _).2
  have cU := fun w => unitOf_is (k := 2) (u := u) (B := 1000) w (by decide) (by decide) hu rfl
  have HQ := Lib.hid hq
  have HQD := Lib.hid hqd
  have HPW := Lib.hid hpw
  have HU := Lib.hid hu
  clear hq hqd hpw hu
  go_enter Tryd.func7, Tryd.ntmps7
  go_wp2_with fail
  refine (cU _).mono ?_
  rintro e v1 ⟨rfl, rfl⟩
  clear cU
  go_wp2_with fail
  obtain ⟨W0, hW0⟩ : ∃ W0 : World, W0 = w.alloc (.cells #[.int .i64 0, .int .i64 3, .int .i64 3, .int .i64 3, .int .i64 6, .int .i64 9, .int .i64 10, .int .i64 11] 3) := ⟨_, rfl⟩
  have G0 : Hid (Bel w W0) := Lib.hid (by rw [hW0]; exact (Bel.refl _).alloc _ _)
  rw [← hW0]
  clear hW0
  go_loopg [12, 13, 14] m (fun gk x12 x13 x14 wr => ∃ (i : Nat) (p t : Int), i ≤ m ∧ m - i ≤ gk ∧ 0 ≤ p ∧ p ≤ 3600000000000 ∧ 1 ≤ t ∧ t ≤ 100000000000 ∧ p = ((1000 / 10 ^ i : Nat) : Int) ∧ t = ((10 ^ i : Nat) : Int) ∧ x12 = .int .u64 p ∧ x13 = .int .u64 t ∧ x14 = .int .i64 (i : Int) ∧ W0 = wr)
  case atStart => exact ⟨0, 1000, 1, by omega, by omega, by omega, by omega, by omega, by omega, by decide, by decide, rfl, rfl, rfl, rfl⟩
  case round =>
    obtain ⟨i, p, t, hi1, hi2, hp0, hp1, ht0, ht1, hp, ht, rfl, rfl, rfl, rfl⟩ := hrel
    by_cases hlt : i < m
    · have hp' : p / 10 = ((1000 / 10 ^ (i + 1) : Nat) : Int) := by rw [hp, Nat.pow_succ, ← Nat.div_div_eq_div_mul]; rfl
      have ht' : t * 10 = ((10 ^ (i + 1) : Nat) : Int) := by rw [ht, Nat.pow_succ]; rfl
      have ht2 : t * 10 ≤ 100000000000 := by
        rw [ht']
        have e1 : 10 ^ (i + 1) ≤ 10 ^ m := Nat.pow_le_pow_right (by decide) hlt
        have := HPW.out
        omega
      have HP := Lib.hid hp'
      have HT := Lib.hid ht'
      clear hp ht hp' ht'
      go_wp2_with fail
      go_roundg (m - (i + 1))
      case measure => omega
      case rel => exact ⟨i + 1, p / 10, t * 10, by omega, by omega, by omega, by omega, by omega, by omega, HP.out, HT.out, by go_num, by go_num, by go_num, rfl⟩
    · obtain rfl : i = m := by omega
      rw [HQD.out] at hp
      by_cases hfb : t ≤ a1
      · clear hp ht
        go_wp2_with fail
        go_ret
        exact ⟨rfl, G0.out⟩
      · have hf : a1.toNat < 10 ^ i := by omega
        obtain ⟨l, hl⟩ : ∃ l, dec a0.toNat = l := ⟨_, rfl⟩
        obtain ⟨y, hy⟩ : ∃ y, pads i a1.toNat = y := ⟨_, rfl⟩
        have hl1 : l.length ≤ 20 := by rw [← hl]; exact dec_20 (by omega)
        have hy1 : y.length ≤ 11 := by rw [← hy, pads_len]; omega
        have hfq : a1.toNat * q ≤ 1000 := by rw [HQ.out, Nat.mul_comm]; exact Nat.mul_le_mul_left _ (Nat.le_of_lt hf)
        obtain ⟨Y, hY⟩ : ∃ Y : Int, a1 * p = Y := ⟨_, rfl⟩
        have hYn : ((a1.toNat * q : Nat) : Int) = Y := by rw [← hY, hp, Int.natCast_mul, Int.toNat_of_nonneg b11]
        have hY0 : 0 ≤ Y := by omega
        have hY1 : Y ≤ 3600000000000 := by omega
        have hX : ((a0.toNat * 1000 + a1.toNat * q : Nat) : Int) = a0 * 1000 + Y := by omega
        obtain ⟨D, hD⟩ : ∃ D, fitD (a0 * 1000 + Y) false = D := ⟨_, rfl⟩
        obtain ⟨O, hO⟩ : ∃ O, fitO (a0 * 1000 + Y) false = O := ⟨_, rfl⟩
        have q1 : Hid (Reads (l ++ [46] ++ y ++ u) D O) := Lib.hid (by rw [← hD, ← hO]; exact reads_pos hX (fraction (k := 2) (by decide) (by omega) h1 (by omega) HQ.out hf hl hy HU.out))
        have cF := fun w => fits_is (a0 * 1000 + Y) false w (by omega) (by omega)
        rw [hD, hO] at cF
        have cP := fun w => padB_is a1 i w b11 h1 (by omega) hf (by omega)
        rw [hy] at cP
        have HLU := Lib.hid hl
        clear hp ht hl hy hfq hYn hX hD hO hf
        go_wp2_with fail
        refine (cF _).mono ?_
        rintro e v1 ⟨rfl, rfl⟩
        clear cF
        go_wp2_with fail
        refine (decB_is _ b01 (by omega) HLU.out).mono ?_
        rintro e v1 ⟨rfl, g1⟩
        have G1 := Lib.hid (G0.out.trans g1)
        clear g1
        go_wp2_with fail
        refine (cP _).mono ?_
        rintro e v2 ⟨rfl, g2⟩
        have G2 := Lib.hid (G1.out.trans g2)
        clear g2 cP
        go_wp2_with fail
        refine (parses_yes _ _ _ _ (by rw [sz_app, sz_app, sz_app]; show l.length + 1 + y.length + u.length ≤ _; omega) (HL.out.bel G2.out) (by rw [dl_app, dl_app, dl_app]; exact q1.out)).mono ?_
        rintro e v3 ⟨rfl, g3⟩
        have G3 := Lib.hid (G2.out.trans g3)
        clear g3
        go_wp2
        go_ret
        exact ⟨rfl, G3.out⟩

set_option maxHeartbeats 4000000 in
theorem walk3 (a0 a1 a2 : Int) (b01 : 0 ≤ a0) (b02 : a0 ≤ 1000000) (b11 : 0 ≤ a1) (b12 : a1 ≤ 18446744073709551615) (b21 : -9223372036854775808 ≤ a2) (b22 : a2 ≤ 9223372036854775807) (w : World) (HL : Hid (Laid w)) :
    Calls Tryd.prog 7 #[.int .u64 a0, .int .u64 a1, .int .i64 a2, .int .i64 3] w fun e w' => e = .returned (.bool true) ∧ Bel w w' := by
  by_cases c0 : a2 < 1
  · go_enter Tryd.func7, Tryd.ntmps7
    go_wp2
    go_ret
    exact ⟨rfl, (Bel.refl _).alloc _ _⟩
  by_cases c1 : 3 < a2
  · have c0' : 1 ≤ a2 := by omega
    go_enter Tryd.func7, Tryd.ntmps7
    go_wp2
    go_ret
    exact ⟨rfl, (Bel.refl _).alloc _ _⟩
  obtain ⟨m, hma⟩ : ∃ m : Nat, (m : Int) = a2 := ⟨a2.toNat, by omega⟩
  have h1 : 1 ≤ m := by omega
  have h2 : m ≤ 3 := by omega
  subst hma
  clear c0 c1 b21 b22
  obtain ⟨q, hq⟩ : ∃ q, 1000 = q * 10 ^ m := ⟨1000 / 10 ^ m, by rcases (show m = 1 ∨ m = 2 ∨ m = 3 by omega) with rfl | rfl | rfl <;> decide⟩
  have hqd : 1000 / 10 ^ m = q := by rw [hq, Nat.mul_div_cancel _ (Nat.pow_pos (by decide))]
  have hpw : 10 ^ m ≤ 10 ^ 3 := Nat.pow_le_pow_right (by decide) h2
  have hpw2 : (10 : Nat) ^ 3 ≤ 100000000000 := by decide
  obtain ⟨u, hu⟩ : ∃ u, uname 3 = u := ⟨_, rfl⟩
  have hu1 : u.length ≤ 3 := by rw [← hu]; exact (uname_len _).2
  have cU := fun w => unitOf_is (k := 3) (u := u) (B := 1000) w (by decide) (by decide) hu rfl
  have HQ := Lib.hid hq
  have HQD := Lib.hid hqd
  have HPW := Lib.hid hpw
  have HU := Lib.hid hu
  clear hq hqd hpw hu
  go_enter Tryd.func7, Tryd.ntmps7
  go_wp2_with fail
  refine (cU _).mono ?_
  rintro e v1 ⟨rfl, rfl⟩
  clear cU
  go_wp2_with fail
  obtain ⟨W0, hW0⟩ : ∃ W0 : World, W0 = w.alloc (.cells #[.int .i64 0, .int .i64 3, .int .i64 3, .int .i64 3, .int .i64 6, .int .i64 9, .int .i64 10, .int .i64 11] 3) := ⟨_, rfl⟩
  have G0 : Hid (Bel w W0) := Lib.hid (by rw [hW0]; exact (Bel.refl _).alloc _ _)
  rw [← hW0]
  clear hW0
  go_loopg [12, 13, 14] m (fun gk x12 x13 x14 wr => ∃ (i : Nat) (p t : Int), i ≤ m ∧ m - i ≤ gk ∧ 0 ≤ p ∧ p ≤ 3600000000000 ∧ 1 ≤ t ∧ t ≤ 100000000000 ∧ p = ((1000 / 10 ^ i : Nat) : Int) ∧ t = ((10 ^ i : Nat) : Int) ∧ x12 = .int .u64 p ∧ x13 = .int .u64 t ∧ x14 = .int .i64 (i : Int) ∧ W0 = wr)
  case atStart => exact ⟨0, 1000, 1, by omega, by omega, by omega, by omega, by omega, by omega, by decide, by decide, rfl, rfl, rfl, rfl⟩
  case round =>
    obtain ⟨i, p, t, hi1, hi2, hp0, hp1, ht0, ht1, hp, ht, rfl, rfl, rfl, rfl⟩ := hrel
    by_cases hlt : i < m
    · have hp' : p / 10 = ((1000 / 10 ^ (i + 1) : Nat) : Int) := by rw [hp, Nat.pow_succ, ← Nat.div_div_eq_div_mul]; rfl
      have ht' : t * 10 = ((10 ^ (i + 1) : Nat) : Int) := by rw [ht, Nat.pow_succ]; rfl
      have ht2 : t * 10 ≤ 100000000000 := by
        rw [ht']
        have e1 : 10 ^ (i + 1) ≤ 10 ^ m := Nat.pow_le_pow_right (by decide) hlt
        have := HPW.out
        omega
      have HP := Lib.hid hp'
      have HT := Lib.hid ht'
      clear hp ht hp' ht'
      go_wp2_with fail
      go_roundg (m - (i + 1))
      case measure => omega
      case rel => exact ⟨i + 1, p / 10, t * 10, by omega, by omega, by omega, by omega, by omega, by omega, HP.out, HT.out, by go_num, by go_num, by go_num, rfl⟩
    · obtain rfl : i = m := by omega
      rw [HQD.out] at hp
      by_cases hfb : t ≤ a1
      · clear hp ht
        go_wp2_with fail
        go_ret
        exact ⟨rfl, G0.out⟩
      · have hf : a1.toNat < 10 ^ i := by omega
        obtain ⟨l, hl⟩ : ∃ l, dec a0.toNat = l := ⟨_, rfl⟩
        obtain ⟨y, hy⟩ : ∃ y, pads i a1.toNat = y := ⟨_, rfl⟩
        have hl1 : l.length ≤ 20 := by rw [← hl]; exact dec_20 (by omega)
        have hy1 : y.length ≤ 11 := by rw [← hy, pads_len]; omega
        have hfq : a1.toNat * q ≤ 1000 := by rw [HQ.out, Nat.mul_comm]; exact Nat.mul_le_mul_left _ (Nat.le_of_lt hf)
        obtain ⟨Y, hY⟩ : ∃ Y : Int, a1 * p = Y := ⟨_, rfl⟩
        have hYn : ((a1.toNat * q : Nat) : Int) = Y := by rw [← hY, hp, Int.natCast_mul, Int.toNat_of_nonneg b11]
        have hY0 : 0 ≤ Y := by omega
        have hY1 : Y ≤ 3600000000000 := by omega
        have hX : ((a0.toNat * 1000 + a1.toNat * q : Nat) : Int) = a0 * 1000 + Y := by omega
        obtain ⟨D, hD⟩ : ∃ D, fitD (a0 * 1000 + Y) false = D := ⟨_, rfl⟩
        obtain ⟨O, hO⟩ : ∃ O, fitO (a0 * 1000 + Y) false = O := ⟨_, rfl⟩
        have q1 : Hid (Reads (l ++ [46] ++ y ++ u) D O) := Lib.hid (by rw [← hD, ← hO]; exact reads_pos hX (fraction (k := 3) (by decide) (by omega) h1 (by omega) HQ.out hf hl hy HU.out))
        have cF := fun w => fits_is (a0 * 1000 + Y) false w (by omega) (by omega)
        rw [hD, hO] at cF
        have cP := fun w => padB_is a1 i w b11 h1 (by omega) hf (by omega)
        rw [hy] at cP
        have HLU := Lib.hid hl
        clear hp ht hl hy hfq hYn hX hD hO hf
        go_wp2_with fail
        refine (cF _).mono ?_
        rintro e v1 ⟨rfl, rfl⟩
        clear cF
        go_wp2_with fail
        refine (decB_is _ b01 (by omega) HLU.out).mono ?_
        rintro e v1 ⟨rfl, g1⟩
        have G1 := Lib.hid (G0.out.trans g1)
        clear g1
        go_wp2_with fail
        refine (cP _).mono ?_
        rintro e v2 ⟨rfl, g2⟩
        have G2 := Lib.hid (G1.out.trans g2)
        clear g2 cP
        go_wp2_with fail
        refine (parses_yes _ _ _ _ (by rw [sz_app, sz_app, sz_app]; show l.length + 1 + y.length + u.length ≤ _; omega) (HL.out.bel G2.out) (by rw [dl_app, dl_app, dl_app]; exact q1.out)).mono ?_
        rintro e v3 ⟨rfl, g3⟩
        have G3 := Lib.hid (G2.out.trans g3)
        clear g3
        go_wp2
        go_ret
        exact ⟨rfl, G3.out⟩

set_option maxHeartbeats 4000000 in
theorem walk4 (a0 a1 a2 : Int) (b01 : 0 ≤ a0) (b02 : a0 ≤ 1000000) (b11 : 0 ≤ a1) (b12 : a1 ≤ 18446744073709551615) (b21 : -9223372036854775808 ≤ a2) (b22 : a2 ≤ 9223372036854775807) (w : World) (HL : Hid (Laid w)) :
    Calls Tryd.prog 7 #[.int .u64 a0, .int .u64 a1, .int .i64 a2, .int .i64 4] w fun e w' => e = .returned (.bool true) ∧ Bel w w' := by
  by_cases c0 : a2 < 1
  · go_enter Tryd.func7, Tryd.ntmps7
    go_wp2
    go_ret
    exact ⟨rfl, (Bel.refl _).alloc _ _⟩
  by_cases c1 : 6 < a2
  · have c0' : 1 ≤ a2 := by omega
    go_enter Tryd.func7, Tryd.ntmps7
    go_wp2
    go_ret
    exact ⟨rfl, (Bel.refl _).alloc _ _⟩
  obtain ⟨m, hma⟩ : ∃ m : Nat, (m : Int) = a2 := ⟨a2.toNat, by omega⟩
  have h1 : 1 ≤ m := by omega
  have h2 : m ≤ 6 := by omega
  subst hma
  clear c0 c1 b21 b22
  obtain ⟨q, hq⟩ : ∃ q, 1000000 = q * 10 ^ m := ⟨1000000 / 10 ^ m, by rcases (show m = 1 ∨ m = 2 ∨ m = 3 ∨ m = 4 ∨ m = 5 ∨ m = 6 by omega) with rfl | rfl | rfl | rfl | rfl | rfl <;> decide⟩
  have hqd : 1000000 / 10 ^ m = q := by rw [hq, Nat.mul_div_cancel _ (Nat.pow_pos (by decide))]
  have hpw : 10 ^ m ≤ 10 ^ 6 := Nat.pow_le_pow_right (by decide) h2
  have hpw2 : (10 : Nat) ^ 6 ≤ 100000000000 := by decide
  obtain ⟨u, hu⟩ : ∃ u, uname 4 = u := ⟨_, rfl⟩
  have hu1 : u.length ≤ 3 := by rw [← hu]; exact (uname_len _).2
  have cU := fun w => unitOf_is (k := 4) (u := u) (B := 1000000) w (by decide) (by decide) hu rfl
  have HQ := Lib.hid hq
  have HQD := Lib.hid hqd
  have HPW := Lib.hid hpw
  have HU := Lib.hid hu
  clear hq hqd hpw hu
  go_enter Tryd.func7, Tryd.ntmps7
  go_wp2_with fail
  refine (cU _).mono ?_
  rintro e v1 ⟨rfl, rfl⟩
  clear cU
  go_wp2_with fail
  obtain ⟨W0, hW0⟩ : ∃ W0 : World, W0 = w.alloc (.cells #[.int .i64 0, .int .i64 3, .int .i64 3, .int .i64 3, .int .i64 6, .int .i64 9, .int .i64 10, .int .i64 11] 3) := ⟨_, rfl⟩
  have G0 : Hid (Bel w W0) := Lib.hid (by rw [hW0]; exact (Bel.refl _).alloc _ _)
  rw [← hW0]
  clear hW0
  go_loopg [12, 13, 14] m (fun gk x12 x13 x14 wr => ∃ (i : Nat) (p t : Int), i ≤ m ∧ m - i ≤ gk ∧ 0 ≤ p ∧ p ≤ 3600000000000 ∧ 1 ≤ t ∧ t ≤ 100000000000 ∧ p = ((1000000 / 10 ^ i : Nat) : Int) ∧ t = ((10 ^ i : Nat) : Int) ∧ x12 = .int .u64 p ∧ x13 = .int .u64 t ∧ x14 = .int .i64 (i : Int) ∧ W0 = wr)
  case atStart => exact ⟨0, 1000000, 1, by omega, by omega, by omega, by omega, by omega, by omega, by decide, by decide, rfl, rfl, rfl, rfl⟩
  case round =>
    obtain ⟨i, p, t, hi1, hi2, hp0, hp1, ht0, ht1, hp, ht, rfl, rfl, rfl, rfl⟩ := hrel
    by_cases hlt : i < m
    · have hp' : p / 10 = ((1000000 / 10 ^ (i + 1) : Nat) : Int) := by rw [hp, Nat.pow_succ, ← Nat.div_div_eq_div_mul]; rfl
      have ht' : t * 10 = ((10 ^ (i + 1) : Nat) : Int) := by rw [ht, Nat.pow_succ]; rfl
      have ht2 : t * 10 ≤ 100000000000 := by
        rw [ht']
        have e1 : 10 ^ (i + 1) ≤ 10 ^ m := Nat.pow_le_pow_right (by decide) hlt
        have := HPW.out
        omega
      have HP := Lib.hid hp'
      have HT := Lib.hid ht'
      clear hp ht hp' ht'
      go_wp2_with fail
      go_roundg (m - (i + 1))
      case measure => omega
      case rel => exact ⟨i + 1, p / 10, t * 10, by omega, by omega, by omega, by omega, by omega, by omega, HP.out, HT.out, by go_num, by go_num, by go_num, rfl⟩
    · obtain rfl : i = m := by omega
      rw [HQD.out] at hp
      by_cases hfb : t ≤ a1
      · clear hp ht
        go_wp2_with fail
        go_ret
        exact ⟨rfl, G0.out⟩
      · have hf : a1.toNat < 10 ^ i := by omega
        obtain ⟨l, hl⟩ : ∃ l, dec a0.toNat = l := ⟨_, rfl⟩
        obtain ⟨y, hy⟩ : ∃ y, pads i a1.toNat = y := ⟨_, rfl⟩
        have hl1 : l.length ≤ 20 := by rw [← hl]; exact dec_20 (by omega)
        have hy1 : y.length ≤ 11 := by rw [← hy, pads_len]; omega
        have hfq : a1.toNat * q ≤ 1000000 := by rw [HQ.out, Nat.mul_comm]; exact Nat.mul_le_mul_left _ (Nat.le_of_lt hf)
        obtain ⟨Y, hY⟩ : ∃ Y : Int, a1 * p = Y := ⟨_, rfl⟩
        have hYn : ((a1.toNat * q : Nat) : Int) = Y := by rw [← hY, hp, Int.natCast_mul, Int.toNat_of_nonneg b11]
        have hY0 : 0 ≤ Y := by omega
        have hY1 : Y ≤ 3600000000000 := by omega
        have hX : ((a0.toNat * 1000000 + a1.toNat * q : Nat) : Int) = a0 * 1000000 + Y := by omega
        obtain ⟨D, hD⟩ : ∃ D, fitD (a0 * 1000000 + Y) false = D := ⟨_, rfl⟩
        obtain ⟨O, hO⟩ : ∃ O, fitO (a0 * 1000000 + Y) false = O := ⟨_, rfl⟩
        have q1 : Hid (Reads (l ++ [46] ++ y ++ u) D O) := Lib.hid (by rw [← hD, ← hO]; exact reads_pos hX (fraction (k := 4) (by decide) (by omega) h1 (by omega) HQ.out hf hl hy HU.out))
        have cF := fun w => fits_is (a0 * 1000000 + Y) false w (by omega) (by omega)
        rw [hD, hO] at cF
        have cP := fun w => padB_is a1 i w b11 h1 (by omega) hf (by omega)
        rw [hy] at cP
        have HLU := Lib.hid hl
        clear hp ht hl hy hfq hYn hX hD hO hf
        go_wp2_with fail
        refine (cF _).mono ?_
        rintro e v1 ⟨rfl, rfl⟩
        clear cF
        go_wp2_with fail
        refine (decB_is _ b01 (by omega) HLU.out).mono ?_
        rintro e v1 ⟨rfl, g1⟩
        have G1 := Lib.hid (G0.out.trans g1)
        clear g1
        go_wp2_with fail
        refine (cP _).mono ?_
        rintro e v2 ⟨rfl, g2⟩
        have G2 := Lib.hid (G1.out.trans g2)
        clear g2 cP
        go_wp2_with fail
        refine (parses_yes _ _ _ _ (by rw [sz_app, sz_app, sz_app]; show l.length + 1 + y.length + u.length ≤ _; omega) (HL.out.bel G2.out) (by rw [dl_app, dl_app, dl_app]; exact q1.out)).mono ?_
        rintro e v3 ⟨rfl, g3⟩
        have G3 := Lib.hid (G2.out.trans g3)
        clear g3
        go_wp2
        go_ret
        exact ⟨rfl, G3.out⟩

set_option maxHeartbeats 4000000 in
theorem walk5 (a0 a1 a2 : Int) (b01 : 0 ≤ a0) (b02 : a0 ≤ 1000000) (b11 : 0 ≤ a1) (b12 : a1 ≤ 18446744073709551615) (b21 : -9223372036854775808 ≤ a2) (b22 : a2 ≤ 9223372036854775807) (w : World) (HL : Hid (Laid w)) :
    Calls Tryd.prog 7 #[.int .u64 a0, .int .u64 a1, .int .i64 a2, .int .i64 5] w fun e w' => e = .returned (.bool true) ∧ Bel w w' := by
  by_cases c0 : a2 < 1
  · go_enter Tryd.func7, Tryd.ntmps7
    go_wp2
    go_ret
    exact ⟨rfl, (Bel.refl _).alloc _ _⟩
  by_cases c1 : 9 < a2
  · have c0' : 1 ≤ a2 := by omega
    go_enter Tryd.func7, Tryd.ntmps7
    go_wp2
    go_ret
    exact ⟨rfl, (Bel.refl _).alloc _ _⟩
  obtain ⟨m, hma⟩ : ∃ m : Nat, (m : Int) = a2 := ⟨a2.toNat, by omega⟩
  have h1 : 1 ≤ m := by omega
  have h2 : m ≤ 9 := by omega
  subst hma
  clear c0 c1 b21 b22
  obtain ⟨q, hq⟩ : ∃ q, 1000000000 = q * 10 ^ m := ⟨1000000000 / 10 ^ m, by rcases (show m = 1 ∨ m = 2 ∨ m = 3 ∨ m = 4 ∨ m = 5 ∨ m = 6 ∨ m = 7 ∨ m = 8 ∨ m = 9 by omega) with rfl | rfl | rfl | rfl | rfl | rfl | rfl | rfl | rfl <;> decide⟩
  have hqd : 1000000000 / 10 ^ m = q := by rw [hq, Nat.mul_div_cancel _ (Nat.pow_pos (by decide))]
  have hpw : 10 ^ m ≤ 10 ^ 9 := Nat.pow_le_pow_right (by decide) h2
  have hpw2 : (10 : Nat) ^ 9 ≤ 100000000000 := by decide
  obtain ⟨u, hu⟩ : ∃ u, uname 5 = u := ⟨_, rfl⟩
  have hu1 : u.length ≤ 3 := by rw [← hu]; exact (uname_len _).2
  have cU := fun w => unitOf_is (k := 5) (u := u) (B := 1000000000) w (by decide) (by decide) hu rfl
  have HQ := Lib.hid hq
  have HQD := Lib.hid hqd
  have HPW := Lib.hid hpw
  have HU := Lib.hid hu
  clear hq hqd hpw hu
  go_enter Tryd.func7, Tryd.ntmps7
  go_wp2_with fail
  refine (cU _).mono ?_
  rintro e v1 ⟨rfl, rfl⟩
  clear cU
  go_wp2_with fail
  obtain ⟨W0, hW0⟩ : ∃ W0 : World, W0 = w.alloc (.cells #[.int .i64 0, .int .i64 3, .int .i64 3, .int .i64 3, .int .i64 6, .int .i64 9, .int .i64 10, .int .i64 11] 3) := ⟨_, rfl⟩
  have G0 : Hid (Bel w W0) := Lib.hid (by rw [hW0]; exact (Bel.refl _).alloc _ _)
  rw [← hW0]
  clear hW0
  go_loopg [12, 13, 14] m (fun gk x12 x13 x14 wr => ∃ (i : Nat) (p t : Int), i ≤ m ∧ m - i ≤ gk ∧ 0 ≤ p ∧ p ≤ 3600000000000 ∧ 1 ≤ t ∧ t ≤ 100000000000 ∧ p = ((1000000000 / 10 ^ i : Nat) : Int) ∧ t = ((10 ^ i : Nat) : Int) ∧ x12 = .int .u64 p ∧ x13 = .int .u64 t ∧ x14 = .int .i64 (i : Int) ∧ W0 = wr)
  case atStart => exact ⟨0, 1000000000, 1, by omega, by omega, by omega, by omega, by omega, by omega, by decide, by decide, rfl, rfl, rfl, rfl⟩
  case round =>
    obtain ⟨i, p, t, hi1, hi2, hp0, hp1, ht0, ht1, hp, ht, rfl, rfl, rfl, rfl⟩ := hrel
    by_cases hlt : i < m
    · have hp' : p / 10 = ((1000000000 / 10 ^ (i + 1) : Nat) : Int) := by rw [hp, Nat.pow_succ, ← Nat.div_div_eq_div_mul]; rfl
      have ht' : t * 10 = ((10 ^ (i + 1) : Nat) : Int) := by rw [ht, Nat.pow_succ]; rfl
      have ht2 : t * 10 ≤ 100000000000 := by
        rw [ht']
        have e1 : 10 ^ (i + 1) ≤ 10 ^ m := Nat.pow_le_pow_right (by decide) hlt
        have := HPW.out
        omega
      have HP := Lib.hid hp'
      have HT := Lib.hid ht'
      clear hp ht hp' ht'
      go_wp2_with fail
      go_roundg (m - (i + 1))
      case measure => omega
      case rel => exact ⟨i + 1, p / 10, t * 10, by omega, by omega, by omega, by omega, by omega, by omega, HP.out, HT.out, by go_num, by go_num, by go_num, rfl⟩
    · obtain rfl : i = m := by omega
      rw [HQD.out] at hp
      by_cases hfb : t ≤ a1
      · clear hp ht
        go_wp2_with fail
        go_ret
        exact ⟨rfl, G0.out⟩
      · have hf : a1.toNat < 10 ^ i := by omega
        obtain ⟨l, hl⟩ : ∃ l, dec a0.toNat = l := ⟨_, rfl⟩
        obtain ⟨y, hy⟩ : ∃ y, pads i a1.toNat = y := ⟨_, rfl⟩
        have hl1 : l.length ≤ 20 := by rw [← hl]; exact dec_20 (by omega)
        have hy1 : y.length ≤ 11 := by rw [← hy, pads_len]; omega
        have hfq : a1.toNat * q ≤ 1000000000 := by rw [HQ.out, Nat.mul_comm]; exact Nat.mul_le_mul_left _ (Nat.le_of_lt hf)
        obtain ⟨Y, hY⟩ : ∃ Y : Int, a1 * p = Y := ⟨_, rfl⟩
        have hYn : ((a1.toNat * q : Nat) : Int) = Y := by rw [← hY, hp, Int.natCast_mul, Int.toNat_of_nonneg b11]
        have hY0 : 0 ≤ Y := by omega
        have hY1 : Y ≤ 3600000000000 := by omega
        have hX : ((a0.toNat * 1000000000 + a1.toNat * q : Nat) : Int) = a0 * 1000000000 + Y := by omega
        obtain ⟨D, hD⟩ : ∃ D, fitD (a0 * 1000000000 + Y) false = D := ⟨_, rfl⟩
        obtain ⟨O, hO⟩ : ∃ O, fitO (a0 * 1000000000 + Y) false = O := ⟨_, rfl⟩
        have q1 : Hid (Reads (l ++ [46] ++ y ++ u) D O) := Lib.hid (by rw [← hD, ← hO]; exact reads_pos hX (fraction (k := 5) (by decide) (by omega) h1 (by omega) HQ.out hf hl hy HU.out))
        have cF := fun w => fits_is (a0 * 1000000000 + Y) false w (by omega) (by omega)
        rw [hD, hO] at cF
        have cP := fun w => padB_is a1 i w b11 h1 (by omega) hf (by omega)
        rw [hy] at cP
        have HLU := Lib.hid hl
        clear hp ht hl hy hfq hYn hX hD hO hf
        go_wp2_with fail
        refine (cF _).mono ?_
        rintro e v1 ⟨rfl, rfl⟩
        clear cF
        go_wp2_with fail
        refine (decB_is _ b01 (by omega) HLU.out).mono ?_
        rintro e v1 ⟨rfl, g1⟩
        have G1 := Lib.hid (G0.out.trans g1)
        clear g1
        go_wp2_with fail
        refine (cP _).mono ?_
        rintro e v2 ⟨rfl, g2⟩
        have G2 := Lib.hid (G1.out.trans g2)
        clear g2 cP
        go_wp2_with fail
        refine (parses_yes _ _ _ _ (by rw [sz_app, sz_app, sz_app]; show l.length + 1 + y.length + u.length ≤ _; omega) (HL.out.bel G2.out) (by rw [dl_app, dl_app, dl_app]; exact q1.out)).mono ?_
        rintro e v3 ⟨rfl, g3⟩
        have G3 := Lib.hid (G2.out.trans g3)
        clear g3
        go_wp2
        go_ret
        exact ⟨rfl, G3.out⟩

set_option maxHeartbeats 4000000 in
theorem walk6 (a0 a1 a2 : Int) (b01 : 0 ≤ a0) (b02 : a0 ≤ 1000000) (b11 : 0 ≤ a1) (b12 : a1 ≤ 18446744073709551615) (b21 : -9223372036854775808 ≤ a2) (b22 : a2 ≤ 9223372036854775807) (w : World) (HL : Hid (Laid w)) :
    Calls Tryd.prog 7 #[.int .u64 a0, .int .u64 a1, .int .i64 a2, .int .i64 6] w fun e w' => e = .returned (.bool true) ∧ Bel w w' := by
  by_cases c0 : a2 < 1
  · go_enter Tryd.func7, Tryd.ntmps7
    go_wp2
    go_ret
    exact ⟨rfl, (Bel.refl _).alloc _ _⟩
  by_cases c1 : 10 < a2
  · have c0' : 1 ≤ a2 := by omega
    go_enter Tryd.func7, Tryd.ntmps7
    go_wp2
    go_ret
    exact ⟨rfl, (Bel.refl _).alloc _ _⟩
  obtain ⟨m, hma⟩ : ∃ m : Nat, (m : Int) = a2 := ⟨a2.toNat, by omega⟩
  have h1 : 1 ≤ m := by omega
  have h2 : m ≤ 10 := by omega
  subst hma
  clear c0 c1 b21 b22
  obtain ⟨q, hq⟩ : ∃ q, 60000000000 = q * 10 ^ m := ⟨60000000000 / 10 ^ m, by rcases (show m = 1 ∨ m = 2 ∨ m = 3 ∨ m = 4 ∨ m = 5 ∨ m = 6 ∨ m = 7 ∨ m = 8 ∨ m = 9 ∨ m = 10 by omega) with rfl | rfl | rfl | rfl | rfl | rfl | rfl | rfl | rfl | rfl <;> decide⟩
  have hqd : 60000000000 / 10 ^ m = q := by rw [hq, Nat.mul_div_cancel _ (Nat.pow_pos (by decide))]
  have hpw : 10 ^ m ≤ 10 ^ 10 := Nat.pow_le_pow_right (by decide) h2
  have hpw2 : (10 : Nat) ^ 10 ≤ 100000000000 := by decide
  obtain ⟨u, hu⟩ : ∃ u, uname 6 = u := ⟨_, rfl⟩
  have hu1 : u.length ≤ 3 := by rw [← hu]; exact (uname_len _).2
  have cU := fun w => unitOf_is (k := 6) (u := u) (B := 60000000000) w (by decide) (by decide) hu rfl
  have HQ := Lib.hid hq
  have HQD := Lib.hid hqd
  have HPW := Lib.hid hpw
  have HU := Lib.hid hu
  clear hq hqd hpw hu
  go_enter Tryd.func7, Tryd.ntmps7
  go_wp2_with fail
  refine (cU _).mono ?_
  rintro e v1 ⟨rfl, rfl⟩
  clear cU
  go_wp2_with fail
  obtain ⟨W0, hW0⟩ : ∃ W0 : World, W0 = w.alloc (.cells #[.int .i64 0, .int .i64 3, .int .i64 3, .int .i64 3, .int .i64 6, .int .i64 9, .int .i64 10, .int .i64 11] 3) := ⟨_, rfl⟩
  have G0 : Hid (Bel w W0) := Lib.hid (by rw [hW0]; exact (Bel.refl _).alloc _ _)
  rw [← hW0]
  clear hW0
  go_loopg [12, 13, 14] m (fun gk x12 x13 x14 wr => ∃ (i : Nat) (p t : Int), i ≤ m ∧ m - i ≤ gk ∧ 0 ≤ p ∧ p ≤ 3600000000000 ∧ 1 ≤ t ∧ t ≤ 100000000000 ∧ p = ((60000000000 / 10 ^ i : Nat) : Int) ∧ t = ((10 ^ i : Nat) : Int) ∧ x12 = .int .u64 p ∧ x13 = .int .u64 t ∧ x14 = .int .i64 (i : Int) ∧ W0 = wr)
  case atStart => exact ⟨0, 60000000000, 1, by omega, by omega, by omega, by omega, by omega, by omega, by decide, by decide, rfl, rfl, rfl, rfl⟩
  case round =>
    obtain ⟨i, p, t, hi1, hi2, hp0, hp1, ht0, ht1, hp, ht, rfl, rfl, rfl, rfl⟩ := hrel
    by_cases hlt : i < m
    · have hp' : p / 10 = ((60000000000 / 10 ^ (i + 1) : Nat) : Int) := by rw [hp, Nat.pow_succ, ← Nat.div_div_eq_div_mul]; rfl
      have ht' : t * 10 = ((10 ^ (i + 1) : Nat) : Int) := by rw [ht, Nat.pow_succ]; rfl
      have ht2 : t * 10 ≤ 100000000000 := by
        rw [ht']
        have e1 : 10 ^ (i + 1) ≤ 10 ^ m := Nat.pow_le_pow_right (by decide) hlt
        have := HPW.out
        omega
      have HP := Lib.hid hp'
      have HT := Lib.hid ht'
      clear hp ht hp' ht'
      go_wp2_with fail
      go_roundg (m - (i + 1))
      case measure => omega
      case rel => exact ⟨i + 1, p / 10, t * 10, by omega, by omega, by omega, by omega, by omega, by omega, HP.out, HT.out, by go_num, by go_num, by go_num, rfl⟩
    · obtain rfl : i = m := by omega
      rw [HQD.out] at hp
      by_cases hfb : t ≤ a1
      · clear hp ht
        go_wp2_with fail
        go_ret
        exact ⟨rfl, G0.out⟩
      · have hf : a1.toNat < 10 ^ i := by omega
        obtain ⟨l, hl⟩ : ∃ l, dec a0.toNat = l := ⟨_, rfl⟩
        obtain ⟨y, hy⟩ : ∃ y, pads i a1.toNat = y := ⟨_, rfl⟩
        have hl1 : l.length ≤ 20 := by rw [← hl]; exact dec_20 (by omega)
        have hy1 : y.length ≤ 11 := by rw [← hy, pads_len]; omega
        have hfq : a1.toNat * q ≤ 60000000000 := by rw [HQ.out, Nat.mul_comm]; exact Nat.mul_le_mul_left _ (Nat.le_of_lt hf)
        obtain ⟨Y, hY⟩ : ∃ Y : Int, a1 * p = Y := ⟨_, rfl⟩
        have hYn : ((a1.toNat * q : Nat) : Int) = Y := by rw [← hY, hp, Int.natCast_mul, Int.toNat_of_nonneg b11]
        have hY0 : 0 ≤ Y := by omega
        have hY1 : Y ≤ 3600000000000 := by omega
        have hX : ((a0.toNat * 60000000000 + a1.toNat * q : Nat) : Int) = a0 * 60000000000 + Y := by omega
        obtain ⟨D, hD⟩ : ∃ D, fitD (a0 * 60000000000 + Y) false = D := ⟨_, rfl⟩
        obtain ⟨O, hO⟩ : ∃ O, fitO (a0 * 60000000000 + Y) false = O := ⟨_, rfl⟩
        have q1 : Hid (Reads (l ++ [46] ++ y ++ u) D O) := Lib.hid (by rw [← hD, ← hO]; exact reads_pos hX (fraction (k := 6) (by decide) (by omega) h1 (by omega) HQ.out hf hl hy HU.out))
        have cF := fun w => fits_is (a0 * 60000000000 + Y) false w (by omega) (by omega)
        rw [hD, hO] at cF
        have cP := fun w => padB_is a1 i w b11 h1 (by omega) hf (by omega)
        rw [hy] at cP
        have HLU := Lib.hid hl
        clear hp ht hl hy hfq hYn hX hD hO hf
        go_wp2_with fail
        refine (cF _).mono ?_
        rintro e v1 ⟨rfl, rfl⟩
        clear cF
        go_wp2_with fail
        refine (decB_is _ b01 (by omega) HLU.out).mono ?_
        rintro e v1 ⟨rfl, g1⟩
        have G1 := Lib.hid (G0.out.trans g1)
        clear g1
        go_wp2_with fail
        refine (cP _).mono ?_
        rintro e v2 ⟨rfl, g2⟩
        have G2 := Lib.hid (G1.out.trans g2)
        clear g2 cP
        go_wp2_with fail
        refine (parses_yes _ _ _ _ (by rw [sz_app, sz_app, sz_app]; show l.length + 1 + y.length + u.length ≤ _; omega) (HL.out.bel G2.out) (by rw [dl_app, dl_app, dl_app]; exact q1.out)).mono ?_
        rintro e v3 ⟨rfl, g3⟩
        have G3 := Lib.hid (G2.out.trans g3)
        clear g3
        go_wp2
        go_ret
        exact ⟨rfl, G3.out⟩

set_option maxHeartbeats 4000000 in
theorem walk7 (a0 a1 a2 : Int) (b01 : 0 ≤ a0) (b02 : a0 ≤ 1000000) (b11 : 0 ≤ a1) (b12 : a1 ≤ 18446744073709551615) (b21 : -9223372036854775808 ≤ a2) (b22 : a2 ≤ 9223372036854775807) (w : World) (HL : Hid (Laid w)) :
    Calls Tryd.prog 7 #[.int .u64 a0, .int .u64 a1, .int .i64 a2, .int .i64 7] w fun e w' => e = .returned (.bool true) ∧ Bel w w' := by
  by_cases c0 : a2 < 1
  · go_enter Tryd.func7, Tryd.ntmps7
    go_wp2
    go_ret
    exact ⟨rfl, (Bel.refl _).alloc _ _⟩
  by_cases c1 : 11 < a2
  · have c0' : 1 ≤ a2 := by omega
    go_enter Tryd.func7, Tryd.ntmps7
    go_wp2
    go_ret
    exact ⟨rfl, (Bel.refl _).alloc _ _⟩
  obtain ⟨m, hma⟩ : ∃ m : Nat, (m : Int) = a2 := ⟨a2.toNat, by omega⟩
  have h1 : 1 ≤ m := by omega
  have h2 : m ≤ 11 := by omega
  subst hma
  clear c0 c1 b21 b22
  obtain ⟨q, hq⟩ : ∃ q, 3600000000000 = q * 10 ^ m := ⟨3600000000000 / 10 ^ m, by rcases (show m = 1 ∨ m = 2 ∨ m = 3 ∨ m = 4 ∨ m = 5 ∨ m = 6 ∨ m = 7 ∨ m = 8 ∨ m = 9 ∨ m = 10 ∨ m = 11 by omega) with rfl | rfl | rfl | rfl | rfl | rfl | rfl | rfl | rfl | rfl | rfl <;> decide⟩
  have hqd : 3600000000000 / 10 ^ m = q := by rw [hq, Nat.mul_div_cancel _ (Nat.pow_pos (by decide))]
  have hpw : 10 ^ m ≤ 10 ^ 11 := Nat.pow_le_pow_right (by decide) h2
  have hpw2 : (10 : Nat) ^ 11 ≤ 100000000000 := by decide
  obtain ⟨u, hu⟩ : ∃ u, uname 7 = u := ⟨_, rfl⟩
  have hu1 : u.length ≤ 3 := by rw [← hu]; exact (uname_len _).2
  have cU := fun w => unitOf_is (k := 7) (u := u) (B := 3600000000000) w (by decide) (by decide) hu rfl
  have HQ := Lib.hid hq
  have HQD := Lib.hid hqd
  have HPW := Lib.hid hpw
  have HU := Lib.hid hu
  clear hq hqd hpw hu
  go_enter Tryd.func7, Tryd.ntmps7
  go_wp2_with fail
  refine (cU _).mono ?_
  rintro e v1 ⟨rfl, rfl⟩
  clear cU
  go_wp2_with fail
  obtain ⟨W0, hW0⟩ : ∃ W0 : World, W0 = w.alloc (.cells #[.int .i64 0, .int .i64 3, .int .i64 3, .int .i64 3, .int .i64 6, .int .i64 9, .int .i64 10, .int .i64 11] 3) := ⟨_, rfl⟩
  have G0 : Hid (Bel w W0) := Lib.hid (by rw [hW0]; exact (Bel.refl _).alloc _ _)
  rw [← hW0]
  clear hW0
  go_loopg [12, 13, 14] m (fun gk x12 x13 x14 wr => ∃ (i : Nat) (p t : Int), i ≤ m ∧ m - i ≤ gk ∧ 0 ≤ p ∧ p ≤ 3600000000000 ∧ 1 ≤ t ∧ t ≤ 100000000000 ∧ p = ((3600000000000 / 10 ^ i : Nat) : Int) ∧ t = ((10 ^ i : Nat) : Int) ∧ x12 = .int .u64 p ∧ x13 = .int .u64 t ∧ x14 = .int .i64 (i : Int) ∧ W0 = wr)
  case atStart => exact ⟨0, 3600000000000, 1, by omega, by omega, by omega, by omega, by omega, by omega, by decide, by decide, rfl, rfl, rfl, rfl⟩
  case round =>
    obtain ⟨i, p, t, hi1, hi2, hp0, hp1, ht0, ht1, hp, ht, rfl, rfl, rfl, rfl⟩ := hrel
    by_cases hlt : i < m
    · have hp' : p / 10 = ((3600000000000 / 10 ^ (i + 1) : Nat) : Int) := by rw [hp, Nat.pow_succ, ← Nat.div_div_eq_div_mul]; rfl
      have ht' : t * 10 = ((10 ^ (i + 1) : Nat) : Int) := by rw [ht, Nat.pow_succ]; rfl
      have ht2 : t * 10 ≤ 100000000000 := by
        rw [ht']
        have e1 : 10 ^ (i + 1) ≤ 10 ^ m := Nat.pow_le_pow_right (by decide) hlt
        have := HPW.out
        omega
      have HP := Lib.hid hp'
      have HT := Lib.hid ht'
      clear hp ht hp' ht'
      go_wp2_with fail
      go_roundg (m - (i + 1))
      case measure => omega
      case rel => exact ⟨i + 1, p / 10, t * 10, by omega, by omega, by omega, by omega, by omega, by omega, HP.out, HT.out, by go_num, by go_num, by go_num, rfl⟩
    · obtain rfl : i = m := by omega
      rw [HQD.out] at hp
      by_cases hfb : t ≤ a1
      · clear hp ht
        go_wp2_with fail
        go_ret
        exact ⟨rfl, G0.out⟩
      · have hf : a1.toNat < 10 ^ i := by omega
        obtain ⟨l, hl⟩ : ∃ l, dec a0.toNat = l := ⟨_, rfl⟩
        obtain ⟨y, hy⟩ : ∃ y, pads i a1.toNat = y := ⟨_, rfl⟩
        have hl1 : l.length ≤ 20 := by rw [← hl]; exact dec_20 (by omega)
        have hy1 : y.length ≤ 11 := by rw [← hy, pads_len]; omega
        have hfq : a1.toNat * q ≤ 3600000000000 := by rw [HQ.out, Nat.mul_comm]; exact Nat.mul_le_mul_left _ (Nat.le_of_lt hf)
        obtain ⟨Y, hY⟩ : ∃ Y : Int, a1 * p = Y := ⟨_, rfl⟩
        have hYn : ((a1.toNat * q : Nat) : Int) = Y := by rw [← hY, hp, Int.natCast_mul, Int.toNat_of_nonneg b11]
        have hY0 : 0 ≤ Y := by omega
        have hY1 : Y ≤ 3600000000000 := by omega
        have hX : ((a0.toNat * 3600000000000 + a1.toNat * q : Nat) : Int) = a0 * 3600000000000 + Y := by omega
        obtain ⟨D, hD⟩ : ∃ D, fitD (a0 * 3600000000000 + Y) false = D := ⟨_, rfl⟩
        obtain ⟨O, hO⟩ : ∃ O, fitO (a0 * 3600000000000 + Y) false = O := ⟨_, rfl⟩
        have q1 : Hid (Reads (l ++ [46] ++ y ++ u) D O) := Lib.hid (by rw [← hD, ← hO]; exact reads_pos hX (fraction (k := 7) (by decide) (by omega) h1 (by omega) HQ.out hf hl hy HU.out))
        have cF := fun w => fits_is (a0 * 3600000000000 + Y) false w (by omega) (by omega)
        rw [hD, hO] at cF
        have cP := fun w => padB_is a1 i w b11 h1 (by omega) hf (by omega)
        rw [hy] at cP
        have HLU := Lib.hid hl
        clear hp ht hl hy hfq hYn hX hD hO hf
        go_wp2_with fail
        refine (cF _).mono ?_
        rintro e v1 ⟨rfl, rfl⟩
        clear cF
        go_wp2_with fail
        refine (decB_is _ b01 (by omega) HLU.out).mono ?_
        rintro e v1 ⟨rfl, g1⟩
        have G1 := Lib.hid (G0.out.trans g1)
        clear g1
        go_wp2_with fail
        refine (cP _).mono ?_
        rintro e v2 ⟨rfl, g2⟩
        have G2 := Lib.hid (G1.out.trans g2)
        clear g2 cP
        go_wp2_with fail
        refine (parses_yes _ _ _ _ (by rw [sz_app, sz_app, sz_app]; show l.length + 1 + y.length + u.length ≤ _; omega) (HL.out.bel G2.out) (by rw [dl_app, dl_app, dl_app]; exact q1.out)).mono ?_
        rintro e v3 ⟨rfl, g3⟩
        have G3 := Lib.hid (G2.out.trans g3)
        clear g3
        go_wp2
        go_ret
        exact ⟨rfl, G3.out⟩

set_option maxHeartbeats 4000000 in
theorem walk (a0 : Int) (a1 : Int) (a2 : Int) (a3 : Int) (w0 : (Lit.int .u64 a0).wf = true) (w1 : (Lit.int .u64 a1).wf = true) (w2 : (Lit.int .i64 a2).wf = true) (w3 : (Lit.int .i64 a3).wf = true) (w : World) (hL : laidMetH Tryd.prog Rows.fnParseFractionRow.laid w) :
    Calls Tryd.prog 7 #[.int .u64 a0, .int .u64 a1, .int .i64 a2, .int .i64 a3] w fun e w' => e = .returned (.bool true) ∧ Bel w w' := by
  obtain ⟨b01, b02⟩ := ubounds_of w0
  obtain ⟨b11, b12⟩ := ubounds_of w1
  obtain ⟨b21, b22⟩ := bounds_of w2
  obtain ⟨b31, b32⟩ := bounds_of w3
  have HL := Lib.hid (of_laid hL)
  clear w0 w1 w2 w3 hL
  by_cases c0 : a3 < 0
  · go_enter Tryd.func7, Tryd.ntmps7
    go_wp2
    go_ret
    exact ⟨rfl, Bel.refl _⟩
  by_cases c1 : 7 < a3
  · go_enter Tryd.func7, Tryd.ntmps7
    go_wp2
    go_ret
    exact ⟨rfl, Bel.refl _⟩
  by_cases c2 : 1000000 < a0
  · go_enter Tryd.func7, Tryd.ntmps7
    go_wp2
    go_ret
    exact ⟨rfl, Bel.refl _⟩
  rcases (show a3 = 0 ∨ a3 = 1 ∨ a3 = 2 ∨ a3 = 3 ∨ a3 = 4 ∨ a3 = 5 ∨ a3 = 6 ∨ a3 = 7 by omega) with rfl | rfl | rfl | rfl | rfl | rfl | rfl | rfl
  · exact walk0 a0 a1 a2 b01 (by omega) b11 b12 b21 b22 w HL
  · exact walk1 a0 a1 a2 b01 (by omega) b11 b12 b21 b22 w HL
  · exact walk2 a0 a1 a2 b01 (by omega) b11 b12 b21 b22 w HL
  · exact walk3 a0 a1 a2 b01 (by omega) b11 b12 b21 b22 w HL
  · exact walk4 a0 a1 a2 b01 (by omega) b11 b12 b21 b22 w HL
  · exact walk5 a0 a1 a2 b01 (by omega) b11 b12 b21 b22 w HL
  · exact walk6 a0 a1 a2 b01 (by omega) b11 b12 b21 b22 w HL
  · exact walk7 a0 a1 a2 b01 (by omega) b11 b12 b21 b22 w HL

end Go.Proofs.YteejjhdfebhagaaDoor.fnParseFraction
