/- spec.String returns the very text str d, for every int64. -/
import Derived.Test.YtkagbpnmdflhjaaSpecStrW
import Derived.Test.YtkagbpnmdflhjaaStrIs
namespace Go.Proofs.Ytkagbpnmdflhjaa
open Go.ChangeShapes Go.WideShapes Go.ChangeAt Go.RowKit
set_option linter.unusedVariables false

set_option maxRecDepth 100000 in
set_option maxHeartbeats 1000000 in
theorem spec_ns (w : World) (u : Int) (x1 : List UInt8) (z1 : x1.length ≤ 40) (h0 : 1 ≤ u) (h1 : u < 1000) (Z : Hid (sized u = u)) (X1 : Hid (dec u.toNat = x1)) :
    Calls Try.prog 12 #[.int .i64 u] w fun e w' => e = .returned (.string ⟨(x1 ++ [110, 115]).toArray⟩) ∧ Grown w w' := by
  go_enter Try.func12, Try.ntmps12
  go_wp2_with fail
  refine (ssize_is _ (by omega) (by omega) Z.out).mono ?_
  rintro e w' ⟨rfl, rfl⟩
  go_wp2_with fail
  refine (digits_is _ (by omega) (by omega) X1.out).mono ?_
  rintro e v1 ⟨rfl, g1⟩
  have G1 := Lib.hid g1
  clear g1
  go_wp2
  go_ret
  exact ⟨ret_str (by apply ByteArray.ext; simp [ByteArray.data_append]), grown_trans (Grown.refl _) G1.out⟩

set_option maxRecDepth 100000 in
set_option maxHeartbeats 1000000 in
theorem spec_us (w : World) (u : Int) (x1 : List UInt8) (z1 : x1.length ≤ 40) (h0 : 1000 ≤ u) (h1 : u < 1000000) (Z : Hid (sized u = u)) (X1 : Hid (dec (u.toNat / 10 ^ 3) ++ frac u.toNat 3 = x1)) :
    Calls Try.prog 12 #[.int .i64 u] w fun e w' => e = .returned (.string ⟨(x1 ++ [194, 181, 115]).toArray⟩) ∧ Grown w w' := by
  go_enter Try.func12, Try.ntmps12
  go_wp2_with fail
  refine (ssize_is _ (by omega) (by omega) Z.out).mono ?_
  rintro e w' ⟨rfl, rfl⟩
  go_wp2_with fail
  refine (short_eq (p := 3) _ (by omega) (by omega) (by omega) X1.out).mono ?_
  rintro e v1 ⟨rfl, g1⟩
  have G1 := Lib.hid g1
  clear g1
  go_wp2
  go_ret
  exact ⟨ret_str (by apply ByteArray.ext; simp [ByteArray.data_append]), grown_trans (Grown.refl _) G1.out⟩

set_option maxRecDepth 100000 in
set_option maxHeartbeats 1000000 in
theorem spec_ms (w : World) (u : Int) (x1 : List UInt8) (z1 : x1.length ≤ 40) (h0 : 1000000 ≤ u) (h1 : u < 1000000000) (Z : Hid (sized u = u)) (X1 : Hid (dec (u.toNat / 10 ^ 6) ++ frac u.toNat 6 = x1)) :
    Calls Try.prog 12 #[.int .i64 u] w fun e w' => e = .returned (.string ⟨(x1 ++ [109, 115]).toArray⟩) ∧ Grown w w' := by
  go_enter Try.func12, Try.ntmps12
  go_wp2_with fail
  refine (ssize_is _ (by omega) (by omega) Z.out).mono ?_
  rintro e w' ⟨rfl, rfl⟩
  go_wp2_with fail
  refine (short_eq (p := 6) _ (by omega) (by omega) (by omega) X1.out).mono ?_
  rintro e v1 ⟨rfl, g1⟩
  have G1 := Lib.hid g1
  clear g1
  go_wp2
  go_ret
  exact ⟨ret_str (by apply ByteArray.ext; simp [ByteArray.data_append]), grown_trans (Grown.refl _) G1.out⟩

set_option maxRecDepth 100000 in
set_option maxHeartbeats 1000000 in
theorem spec_s (w : World) (u : Int) (x1 : List UInt8) (z1 : x1.length ≤ 40) (h0 : 1000000000 ≤ u) (h1 : u < 60000000000) (Z : Hid (sized u = u)) (X1 : Hid (dec (u.toNat / 10 ^ 9) ++ frac u.toNat 9 = x1)) :
    Calls Try.prog 12 #[.int .i64 u] w fun e w' => e = .returned (.string ⟨(x1 ++ [115]).toArray⟩) ∧ Grown w w' := by
  go_enter Try.func12, Try.ntmps12
  go_wp2_with fail
  refine (ssize_is _ (by omega) (by omega) Z.out).mono ?_
  rintro e w' ⟨rfl, rfl⟩
  go_wp2_with fail
  refine (short_eq (p := 9) _ (by omega) (by omega) (by omega) X1.out).mono ?_
  rintro e v1 ⟨rfl, g1⟩
  have G1 := Lib.hid g1
  clear g1
  go_wp2
  go_ret
  exact ⟨ret_str (by apply ByteArray.ext; simp [ByteArray.data_append]), grown_trans (Grown.refl _) G1.out⟩

set_option maxRecDepth 100000 in
set_option maxHeartbeats 1000000 in
theorem spec_m (w : World) (u : Int) (x1 x2 : List UInt8) (z1 : x1.length ≤ 40) (z2 : x2.length ≤ 40) (h0 : 60000000000 ≤ u) (h1 : u < 3600000000000) (Z : Hid (sized u = u)) (X1 : Hid (dec (u / 60000000000).toNat = x1)) (X2 : Hid (dec ((u % 60000000000).toNat / 10 ^ 9) ++ frac (u % 60000000000).toNat 9 = x2)) :
    Calls Try.prog 12 #[.int .i64 u] w fun e w' => e = .returned (.string ⟨(x1 ++ (109 :: (x2 ++ [115]))).toArray⟩) ∧ Grown w w' := by
  go_enter Try.func12, Try.ntmps12
  go_wp2_with fail
  refine (ssize_is _ (by omega) (by omega) Z.out).mono ?_
  rintro e w' ⟨rfl, rfl⟩
  go_wp2_with fail
  refine (digits_is _ (by omega) (by omega) X1.out).mono ?_
  rintro e v1 ⟨rfl, g1⟩
  have G1 := Lib.hid g1
  clear g1
  go_wp2_with fail
  refine (short_eq (p := 9) _ (by omega) (by omega) (by omega) X2.out).mono ?_
  rintro e v2 ⟨rfl, g2⟩
  have G2 := Lib.hid g2
  clear g2
  go_wp2
  go_ret
  exact ⟨ret_str (by apply ByteArray.ext; simp [ByteArray.data_append]), grown_trans (grown_trans (Grown.refl _) G1.out) G2.out⟩

set_option maxRecDepth 100000 in
set_option maxHeartbeats 1000000 in
theorem spec_h (w : World) (u : Int) (x1 x2 x3 : List UInt8) (z1 : x1.length ≤ 40) (z2 : x2.length ≤ 40) (z3 : x3.length ≤ 40) (h0 : 3600000000000 ≤ u) (h1 : u ≤ 9223372036854775807) (Z : Hid (sized u = u)) (X1 : Hid (dec (u / 3600000000000).toNat = x1)) (X2 : Hid (dec (u % 3600000000000 / 60000000000).toNat = x2)) (X3 : Hid (dec ((u % 60000000000).toNat / 10 ^ 9) ++ frac (u % 60000000000).toNat 9 = x3)) :
    Calls Try.prog 12 #[.int .i64 u] w fun e w' => e = .returned (.string ⟨(x1 ++ (104 :: (x2 ++ (109 :: (x3 ++ [115]))))).toArray⟩) ∧ Grown w w' := by
  go_enter Try.func12, Try.ntmps12
  go_wp2_with fail
  refine (ssize_is _ (by omega) (by omega) Z.out).mono ?_
  rintro e w' ⟨rfl, rfl⟩
  go_wp2_with fail
  refine (digits_is _ (by omega) (by omega) X1.out).mono ?_
  rintro e v1 ⟨rfl, g1⟩
  have G1 := Lib.hid g1
  clear g1
  go_wp2_with fail
  refine (digits_is _ (by omega) (by omega) X2.out).mono ?_
  rintro e v2 ⟨rfl, g2⟩
  have G2 := Lib.hid g2
  clear g2
  go_wp2_with fail
  refine (short_eq (p := 9) _ (by omega) (by omega) (by omega) X3.out).mono ?_
  rintro e v3 ⟨rfl, g3⟩
  have G3 := Lib.hid g3
  clear g3
  go_wp2
  go_ret
  exact ⟨ret_str (by apply ByteArray.ext; simp [ByteArray.data_append]), grown_trans (grown_trans (grown_trans (Grown.refl _) G1.out) G2.out) G3.out⟩

set_option maxRecDepth 100000 in
set_option maxHeartbeats 1000000 in
theorem spec_ns_neg (w : World) (u : Int) (x1 : List UInt8) (z1 : x1.length ≤ 40) (h0 : 1 ≤ u) (h1 : u < 1000) (Z : Hid (sized (-u) = u)) (X1 : Hid (dec u.toNat = x1)) :
    Calls Try.prog 12 #[.int .i64 (-u)] w fun e w' => e = .returned (.string ⟨(45 :: (x1 ++ [110, 115])).toArray⟩) ∧ Grown w w' := by
  go_enter Try.func12, Try.ntmps12
  go_wp2_with fail
  refine (ssize_is _ (by omega) (by omega) Z.out).mono ?_
  rintro e w' ⟨rfl, rfl⟩
  go_wp2_with fail
  refine (digits_is _ (by omega) (by omega) X1.out).mono ?_
  rintro e v1 ⟨rfl, g1⟩
  have G1 := Lib.hid g1
  clear g1
  go_wp2
  go_ret
  exact ⟨ret_str (by apply ByteArray.ext; simp [ByteArray.data_append]), grown_trans (Grown.refl _) G1.out⟩

set_option maxRecDepth 100000 in
set_option maxHeartbeats 1000000 in
theorem spec_us_neg (w : World) (u : Int) (x1 : List UInt8) (z1 : x1.length ≤ 40) (h0 : 1000 ≤ u) (h1 : u < 1000000) (Z : Hid (sized (-u) = u)) (X1 : Hid (dec (u.toNat / 10 ^ 3) ++ frac u.toNat 3 = x1)) :
    Calls Try.prog 12 #[.int .i64 (-u)] w fun e w' => e = .returned (.string ⟨(45 :: (x1 ++ [194, 181, 115])).toArray⟩) ∧ Grown w w' := by
  go_enter Try.func12, Try.ntmps12
  go_wp2_with fail
  refine (ssize_is _ (by omega) (by omega) Z.out).mono ?_
  rintro e w' ⟨rfl, rfl⟩
  go_wp2_with fail
  refine (short_eq (p := 3) _ (by omega) (by omega) (by omega) X1.out).mono ?_
  rintro e v1 ⟨rfl, g1⟩
  have G1 := Lib.hid g1
  clear g1
  go_wp2
  go_ret
  exact ⟨ret_str (by apply ByteArray.ext; simp [ByteArray.data_append]), grown_trans (Grown.refl _) G1.out⟩

set_option maxRecDepth 100000 in
set_option maxHeartbeats 1000000 in
theorem spec_ms_neg (w : World) (u : Int) (x1 : List UInt8) (z1 : x1.length ≤ 40) (h0 : 1000000 ≤ u) (h1 : u < 1000000000) (Z : Hid (sized (-u) = u)) (X1 : Hid (dec (u.toNat / 10 ^ 6) ++ frac u.toNat 6 = x1)) :
    Calls Try.prog 12 #[.int .i64 (-u)] w fun e w' => e = .returned (.string ⟨(45 :: (x1 ++ [109, 115])).toArray⟩) ∧ Grown w w' := by
  go_enter Try.func12, Try.ntmps12
  go_wp2_with fail
  refine (ssize_is _ (by omega) (by omega) Z.out).mono ?_
  rintro e w' ⟨rfl, rfl⟩
  go_wp2_with fail
  refine (short_eq (p := 6) _ (by omega) (by omega) (by omega) X1.out).mono ?_
  rintro e v1 ⟨rfl, g1⟩
  have G1 := Lib.hid g1
  clear g1
  go_wp2
  go_ret
  exact ⟨ret_str (by apply ByteArray.ext; simp [ByteArray.data_append]), grown_trans (Grown.refl _) G1.out⟩

set_option maxRecDepth 100000 in
set_option maxHeartbeats 1000000 in
theorem spec_s_neg (w : World) (u : Int) (x1 : List UInt8) (z1 : x1.length ≤ 40) (h0 : 1000000000 ≤ u) (h1 : u < 60000000000) (Z : Hid (sized (-u) = u)) (X1 : Hid (dec (u.toNat / 10 ^ 9) ++ frac u.toNat 9 = x1)) :
    Calls Try.prog 12 #[.int .i64 (-u)] w fun e w' => e = .returned (.string ⟨(45 :: (x1 ++ [115])).toArray⟩) ∧ Grown w w' := by
  go_enter Try.func12, Try.ntmps12
  go_wp2_with fail
  refine (ssize_is _ (by omega) (by omega) Z.out).mono ?_
  rintro e w' ⟨rfl, rfl⟩
  go_wp2_with fail
  refine (short_eq (p := 9) _ (by omega) (by omega) (by omega) X1.out).mono ?_
  rintro e v1 ⟨rfl, g1⟩
  have G1 := Lib.hid g1
  clear g1
  go_wp2
  go_ret
  exact ⟨ret_str (by apply ByteArray.ext; simp [ByteArray.data_append]), grown_trans (Grown.refl _) G1.out⟩

set_option maxRecDepth 100000 in
set_option maxHeartbeats 1000000 in
theorem spec_m_neg (w : World) (u : Int) (x1 x2 : List UInt8) (z1 : x1.length ≤ 40) (z2 : x2.length ≤ 40) (h0 : 60000000000 ≤ u) (h1 : u < 3600000000000) (Z : Hid (sized (-u) = u)) (X1 : Hid (dec (u / 60000000000).toNat = x1)) (X2 : Hid (dec ((u % 60000000000).toNat / 10 ^ 9) ++ frac (u % 60000000000).toNat 9 = x2)) :
    Calls Try.prog 12 #[.int .i64 (-u)] w fun e w' => e = .returned (.string ⟨(45 :: (x1 ++ (109 :: (x2 ++ [115])))).toArray⟩) ∧ Grown w w' := by
  go_enter Try.func12, Try.ntmps12
  go_wp2_with fail
  refine (ssize_is _ (by omega) (by omega) Z.out).mono ?_
  rintro e w' ⟨rfl, rfl⟩
  go_wp2_with fail
  refine (digits_is _ (by omega) (by omega) X1.out).mono ?_
  rintro e v1 ⟨rfl, g1⟩
  have G1 := Lib.hid g1
  clear g1
  go_wp2_with fail
  refine (short_eq (p := 9) _ (by omega) (by omega) (by omega) X2.out).mono ?_
  rintro e v2 ⟨rfl, g2⟩
  have G2 := Lib.hid g2
  clear g2
  go_wp2
  go_ret
  exact ⟨ret_str (by apply ByteArray.ext; simp [ByteArray.data_append]), grown_trans (grown_trans (Grown.refl _) G1.out) G2.out⟩

set_option maxRecDepth 100000 in
set_option maxHeartbeats 1000000 in
theorem spec_h_neg (w : World) (u : Int) (x1 x2 x3 : List UInt8) (z1 : x1.length ≤ 40) (z2 : x2.length ≤ 40) (z3 : x3.length ≤ 40) (h0 : 3600000000000 ≤ u) (h1 : u ≤ 9223372036854775808) (Z : Hid (sized (-u) = u)) (X1 : Hid (dec (u / 3600000000000).toNat = x1)) (X2 : Hid (dec (u % 3600000000000 / 60000000000).toNat = x2)) (X3 : Hid (dec ((u % 60000000000).toNat / 10 ^ 9) ++ frac (u % 60000000000).toNat 9 = x3)) :
    Calls Try.prog 12 #[.int .i64 (-u)] w fun e w' => e = .returned (.string ⟨(45 :: (x1 ++ (104 :: (x2 ++ (109 :: (x3 ++ [115])))))).toArray⟩) ∧ Grown w w' := by
  go_enter Try.func12, Try.ntmps12
  go_wp2_with fail
  refine (ssize_is _ (by omega) (by omega) Z.out).mono ?_
  rintro e w' ⟨rfl, rfl⟩
  go_wp2_with fail
  refine (digits_is _ (by omega) (by omega) X1.out).mono ?_
  rintro e v1 ⟨rfl, g1⟩
  have G1 := Lib.hid g1
  clear g1
  go_wp2_with fail
  refine (digits_is _ (by omega) (by omega) X2.out).mono ?_
  rintro e v2 ⟨rfl, g2⟩
  have G2 := Lib.hid g2
  clear g2
  go_wp2_with fail
  refine (short_eq (p := 9) _ (by omega) (by omega) (by omega) X3.out).mono ?_
  rintro e v3 ⟨rfl, g3⟩
  have G3 := Lib.hid g3
  clear g3
  go_wp2
  go_ret
  exact ⟨ret_str (by apply ByteArray.ext; simp [ByteArray.data_append]), grown_trans (grown_trans (grown_trans (Grown.refl _) G1.out) G2.out) G3.out⟩

theorem spec_zero (w : World) :
    Calls Try.prog 12 #[.int .i64 0] w fun e w' => e = .returned (.string ⟨[48, 115].toArray⟩) ∧ Grown w w' := by
  have Z := Lib.hid (show sized 0 = 0 by decide +kernel)
  go_enter Try.func12, Try.ntmps12
  go_wp2_with fail
  refine (ssize_is _ (by omega) (by omega) Z.out).mono ?_
  rintro e w' ⟨rfl, rfl⟩
  go_wp2
  go_ret
  exact ⟨rfl, Grown.refl _⟩

/-- the pieces of the text, as the reference makes them -/
theorem strU_small {n : Nat} (h0 : 1000000000 ≤ n) (h1 : n < 60000000000) : strU n = dec (n / 10 ^ 9) ++ frac n 9 ++ [115] := by
  rw [strU_s h0 (by omega), show n / 1000000000 % 60 = n / 10 ^ 9 by omega, List.append_assoc]
theorem strU_min {n : Nat} (h0 : 60000000000 ≤ n) (h1 : n < 3600000000000) : strU n = dec (n / 60000000000) ++ (109 :: ((dec (n % 60000000000 / 10 ^ 9) ++ frac (n % 60000000000) 9) ++ [115])) := by
  rw [strU_m (by omega) (by omega) (by omega), show n / 1000000000 / 60 % 60 = n / 60000000000 by omega, show n / 1000000000 % 60 = n % 60000000000 / 10 ^ 9 by omega, frac_mod (v := n) (m := 60000000000) (i := 9) ⟨60, rfl⟩, List.append_assoc]
theorem strU_hour {n : Nat} (h0 : 3600000000000 ≤ n) : strU n = dec (n / 3600000000000) ++ (104 :: (dec (n % 3600000000000 / 60000000000) ++ (109 :: ((dec (n % 60000000000 / 10 ^ 9) ++ frac (n % 60000000000) 9) ++ [115])))) := by
  rw [strU_h (by omega) (by omega) (by omega), show n / 1000000000 / 60 / 60 = n / 3600000000000 by omega, show n / 1000000000 / 60 % 60 = n % 3600000000000 / 60000000000 by omega, show n / 1000000000 % 60 = n % 60000000000 / 10 ^ 9 by omega, frac_mod (v := n) (m := 60000000000) (i := 9) ⟨60, rfl⟩, List.append_assoc]

theorem len40 {n i : Nat} (m : Nat) (h : n < 10 ^ 20) (hi : i ≤ 9) : (dec n ++ frac m i).length ≤ 40 := by
  have := dec_len (k := 20) (by omega) h
  have := frac_len m i
  rw [List.length_append]; omega
theorem len40' {n : Nat} (h : n < 10 ^ 20) : (dec n).length ≤ 40 := by
  have := dec_len (k := 20) (by omega) h
  omega

theorem spec_any {d : Int} (w : World) (h1 : -9223372036854775808 ≤ d) (h2 : d ≤ 9223372036854775807) :
    Calls Try.prog 12 #[.int .i64 d] w fun e w' => e = .returned (.string ⟨(str d).toArray⟩) ∧ Grown w w' := by
  by_cases hz : d = 0
  · subst hz; rw [str_zero]; exact spec_zero w
  obtain ⟨n, hn⟩ : ∃ n : Nat, n = d.natAbs := ⟨_, rfl⟩
  have hT : (n : Int).toNat = n := Int.toNat_natCast n
  by_cases hd : d < 0
  · have ed : d = -(n : Int) := by omega
    have es : str d = 45 :: strU n := by unfold str; rw [if_pos hd, hn]
    have hs : sized (-(n : Int)) = n := by unfold sized; rw [if_pos (by omega)]; omega
    rw [es, ed]
    by_cases c1 : n < 1000
    · rw [strU_ns (by omega) c1]
      exact spec_ns_neg w n (dec n) (len40' (by omega)) (by omega) (by omega) hs (by rw [hT]; exact rfl)
    · by_cases c2 : n < 1000000
      · rw [strU_us (by omega) c2, ← List.append_assoc]
        exact spec_us_neg w n _ (len40 n (n := n / 10 ^ 3) (by omega) (by omega)) (by omega) (by omega) hs (by rw [hT]; exact rfl)
      · by_cases c3 : n < 1000000000
        · rw [strU_ms (by omega) c3, ← List.append_assoc]
          exact spec_ms_neg w n _ (len40 n (n := n / 10 ^ 6) (by omega) (by omega)) (by omega) (by omega) hs (by rw [hT]; exact rfl)
        · by_cases c4 : n < 60000000000
          · rw [strU_small (by omega) c4]
            exact spec_s_neg w n _ (len40 n (n := n / 10 ^ 9) (by omega) (by omega)) (by omega) (by omega) hs (by rw [hT]; exact rfl)
          · by_cases c5 : n < 3600000000000
            · rw [strU_min (by omega) c5]
              exact spec_m_neg w n _ _ (len40' (n := n / 60000000000) (by omega)) (len40 (n % 60000000000) (n := n % 60000000000 / 10 ^ 9) (by omega) (by omega)) (by omega) (by omega) hs rfl rfl
            · rw [strU_hour (by omega)]
              exact spec_h_neg w n _ _ _ (len40' (n := n / 3600000000000) (by omega)) (len40' (n := n % 3600000000000 / 60000000000) (by omega)) (len40 (n % 60000000000) (n := n % 60000000000 / 10 ^ 9) (by omega) (by omega)) (by omega) (by omega) hs rfl rfl rfl
  · have ed : d = (n : Int) := by omega
    have es : str d = strU n := by unfold str; rw [if_neg hd, hn]
    have hs : sized (n : Int) = n := by unfold sized; rw [if_neg (by omega)]
    rw [es, ed]
    by_cases c1 : n < 1000
    · rw [strU_ns (by omega) c1]
      exact spec_ns w n (dec n) (len40' (by omega)) (by omega) (by omega) hs (by rw [hT]; exact rfl)
    · by_cases c2 : n < 1000000
      · rw [strU_us (by omega) c2, ← List.append_assoc]
        exact spec_us w n _ (len40 n (n := n / 10 ^ 3) (by omega) (by omega)) (by omega) (by omega) hs (by rw [hT]; exact rfl)
      · by_cases c3 : n < 1000000000
        · rw [strU_ms (by omega) c3, ← List.append_assoc]
          exact spec_ms w n _ (len40 n (n := n / 10 ^ 6) (by omega) (by omega)) (by omega) (by omega) hs (by rw [hT]; exact rfl)
        · by_cases c4 : n < 60000000000
          · rw [strU_small (by omega) c4]
            exact spec_s w n _ (len40 n (n := n / 10 ^ 9) (by omega) (by omega)) (by omega) (by omega) hs (by rw [hT]; exact rfl)
          · by_cases c5 : n < 3600000000000
            · rw [strU_min (by omega) c5]
              exact spec_m w n _ _ (len40' (n := n / 60000000000) (by omega)) (len40 (n % 60000000000) (n := n % 60000000000 / 10 ^ 9) (by omega) (by omega)) (by omega) (by omega) hs rfl rfl
            · rw [strU_hour (by omega)]
              exact spec_h w n _ _ _ (len40' (n := n / 3600000000000) (by omega)) (len40' (n := n % 3600000000000 / 60000000000) (by omega)) (len40 (n % 60000000000) (n := n % 60000000000 / 10 ^ 9) (by omega) (by omega)) (by omega) (by omega) hs rfl rfl rfl

end Go.Proofs.Ytkagbpnmdflhjaa
