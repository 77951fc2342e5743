/- The law FnParseSums returns true for every input, where the listed package variables hold what the program lays into them. Two numbers with units one behind the other are the sum of both, if that is a duration. -/
import Derived.Test.YteejjhdfebhagaaDoorRows
import Derived.WalkKit
import Derived.ProofKit
import Derived.OpenShut
import Derived.Test.YteejjhdfebhagaaDoorLawsW
import Derived.Test.YteejjhdfebhagaaDoorUBounds
import Derived.Test.YteejjhdfebhagaaDoorAddsStr
namespace Go.Proofs.YteejjhdfebhagaaDoor.fnParseSums
open Go.ChangeShapes Go.WideShapes Go.ChangeAt Go.RowKit
set_option linter.unusedVariables false

theorem both {a b j k X : Nat} (hj : j ≤ 7) (hk : k ≤ 7) (ha : a ≤ 1000000) (hb : b ≤ 1000000) {l m u v : List UInt8} (hl : dec a = l) (hm : dec b = m) (hu : uname j = u) (hv : uname k = v) (hX : a * uby j + b * uby k = X) :
    parse vf (l ++ u ++ m ++ v) = if X ≤ two63 - 1 then some (X : Int) else none := by
  subst hl
  subst hm
  subst hu
  subst hv
  subst hX
  have h1 : a * uby j ≤ 1000000 * 3600000000000 := Nat.mul_le_mul ha (uby_le j)
  have h2 : b * uby k ≤ 1000000 * 3600000000000 := Nat.mul_le_mul hb (uby_le k)
  have A := adds_dec vf a (uby j) (uname j) (uname_ne hj) (uname_units hj) (uname_by hj) (by unfold two63; omega)
  have B := adds_dec vf b (uby k) (uname k) (uname_ne hk) (uname_units hk) (uname_by hk) (by unfold two63; omega)
  have C := A.app B (noU_digits (digits_dec _) (dec_ne _) _)
  have e : dec a ++ uname j ++ dec b ++ uname k = dec a ++ uname j ++ (dec b ++ uname k) := by simp
  have e2 : dec a ++ uname j ++ dec b ++ uname k = dec a ++ (uname j ++ (dec b ++ uname k)) := by simp
  have hn : uname j ++ (dec b ++ uname k) ≠ [] := by
    intro e; have := congrArg List.length e; rw [List.length_append, List.length_nil] at this; have := (uname_len j).1; omega
  obtain ⟨l1, l2⟩ := long_of (dec_ne a) hn
  rw [← e2] at l1 l2
  have hs := unsign_app (digits_dec a) (dec_ne a) (uname j ++ (dec b ++ uname k))
  rw [← e2] at hs
  rw [e] at l1 l2 hs ⊢
  exact C.parse (by unfold two64; omega) hs l1 l2

set_option maxHeartbeats 4000000 in
theorem walk (a0 : Int) (a1 : Int) (a2 : Int) (a3 : Int) (w0 : (Lit.int .u64 a0).wf = true) (w1 : (Lit.int .u64 a1).wf = true) (w2 : (Lit.int .i64 a2).wf = true) (w3 : (Lit.int .i64 a3).wf = true) (w : World) (hL : laidMetH Tryd.prog Rows.fnParseSumsRow.laid w) :
    Calls Tryd.prog 10 #[.int .u64 a0, .int .u64 a1, .int .i64 a2, .int .i64 a3] w fun e w' => e = .returned (.bool true) ∧ Bel w w' := by
  obtain ⟨b01, b02⟩ := ubounds_of w0
  obtain ⟨b11, b12⟩ := ubounds_of w1
  obtain ⟨b21, b22⟩ := bounds_of w2
  obtain ⟨b31, b32⟩ := bounds_of w3
  have HL := Lib.hid (of_laid hL)
  clear w0 w1 w2 w3 hL
  by_cases c0 : a2 < 0
  · go_enter Tryd.func10, Tryd.ntmps10
    go_wp2
    go_ret
    exact ⟨rfl, Bel.refl _⟩
  by_cases c1 : 7 < a2
  · go_enter Tryd.func10, Tryd.ntmps10
    go_wp2
    go_ret
    exact ⟨rfl, Bel.refl _⟩
  by_cases c2 : a3 < 0
  · go_enter Tryd.func10, Tryd.ntmps10
    go_wp2
    go_ret
    exact ⟨rfl, Bel.refl _⟩
  by_cases c3 : 7 < a3
  · go_enter Tryd.func10, Tryd.ntmps10
    go_wp2
    go_ret
    exact ⟨rfl, Bel.refl _⟩
  by_cases c4 : 1000000 < a0
  · go_enter Tryd.func10, Tryd.ntmps10
    go_wp2
    go_ret
    exact ⟨rfl, Bel.refl _⟩
  by_cases c5 : 1000000 < a1
  · go_enter Tryd.func10, Tryd.ntmps10
    go_wp2
    go_ret
    exact ⟨rfl, Bel.refl _⟩
  have h0 : 0 ≤ a2 := by omega
  have h1 : a2 ≤ 7 := by omega
  have h2 : 0 ≤ a3 := by omega
  have h3 : a3 ≤ 7 := by omega
  have h4 : a0 ≤ 1000000 := by omega
  have h5 : a1 ≤ 1000000 := by omega
  clear c0 c1 c2 c3 c4 c5
  obtain ⟨u, hu⟩ : ∃ u, uname a2.toNat = u := ⟨_, rfl⟩
  obtain ⟨v, hv⟩ : ∃ v, uname a3.toNat = v := ⟨_, rfl⟩
  obtain ⟨l, hl⟩ : ∃ l, dec a0.toNat = l := ⟨_, rfl⟩
  obtain ⟨m, hm⟩ : ∃ m, dec a1.toNat = m := ⟨_, rfl⟩
  obtain ⟨B, hB⟩ : ∃ B : Int, (uby a2.toNat : Int) = B := ⟨_, rfl⟩
  obtain ⟨C, hC⟩ : ∃ C : Int, (uby a3.toNat : Int) = C := ⟨_, rfl⟩
  obtain ⟨P, hP⟩ : ∃ P : Int, a0 * B = P := ⟨_, rfl⟩
  obtain ⟨Q, hQ⟩ : ∃ Q : Int, a1 * C = Q := ⟨_, rfl⟩
  have hl1 : l.length ≤ 20 := by rw [← hl]; exact dec_20 (by omega)
  have hm1 : m.length ≤ 20 := by rw [← hm]; exact dec_20 (by omega)
  have hu1 : u.length ≤ 3 := by rw [← hu]; exact (uname_len _).2
  have hv1 : v.length ≤ 3 := by rw [← hv]; exact (uname_len _).2
  have hPn : ((a0.toNat * uby a2.toNat : Nat) : Int) = P := by rw [← hP, ← hB, Int.natCast_mul, Int.toNat_of_nonneg b01]
  have hQn : ((a1.toNat * uby a3.toNat : Nat) : Int) = Q := by rw [← hQ, ← hC, Int.natCast_mul, Int.toNat_of_nonneg b11]
  have n1 : a0.toNat * uby a2.toNat ≤ 1000000 * 3600000000000 := Nat.mul_le_mul (by omega) (uby_le _)
  have n2 : a1.toNat * uby a3.toNat ≤ 1000000 * 3600000000000 := Nat.mul_le_mul (by omega) (uby_le _)
  have hP0 : 0 ≤ P := by omega
  have hP1 : P ≤ 3600000000000000000 := by omega
  have hQ0 : 0 ≤ Q := by omega
  have hQ1 : Q ≤ 3600000000000000000 := by omega
  obtain ⟨D, hD⟩ : ∃ D, fitD (P + Q) false = D := ⟨_, rfl⟩
  obtain ⟨O, hO⟩ : ∃ O, fitO (P + Q) false = O := ⟨_, rfl⟩
  have q1 : Hid (Reads (l ++ u ++ m ++ v) D O) := Lib.hid (by rw [← hD, ← hO]; exact reads_pos (X := a0.toNat * uby a2.toNat + a1.toNat * uby a3.toNat) (by omega) (both (by omega) (by omega) (by omega) (by omega) hl hm hu hv rfl))
  have cU := fun w => unitOf_is w h0 h1 hu hB
  have cV := fun w => unitOf_is w h2 h3 hv hC
  have cF := fun w => fits_is (P + Q) false w (by omega) (by omega)
  rw [hD, hO] at cF
  have HLU := Lib.hid hl
  have HMU := Lib.hid hm
  have hB1 : 1 ≤ B := by have := uby_pos a2.toNat; omega
  have hB2 : B ≤ 3600000000000 := by have := uby_le a2.toNat; omega
  have hC1 : 1 ≤ C := by have := uby_pos a3.toNat; omega
  have hC2 : C ≤ 3600000000000 := by have := uby_le a3.toNat; omega
  clear hu hv hl hm hB hC hPn hQn n1 n2 hD hO
  go_enter Tryd.func10, Tryd.ntmps10
  go_wp2_with fail
  refine (cU _).mono ?_
  rintro e v1 ⟨rfl, rfl⟩
  go_wp2_with fail
  refine (cV _).mono ?_
  rintro e v1 ⟨rfl, rfl⟩
  clear cU cV
  go_wp2_with fail
  refine (cF _).mono ?_
  rintro e v1 ⟨rfl, rfl⟩
  clear cF
  go_wp2_with fail
  refine (decB_is _ b01 (by omega) HLU.out).mono ?_
  rintro e v1 ⟨rfl, g1⟩
  have G1 := Lib.hid g1
  clear g1
  go_wp2_with fail
  refine (decB_is _ b11 (by omega) HMU.out).mono ?_
  rintro e v2 ⟨rfl, g2⟩
  have G2 := Lib.hid (G1.out.trans g2)
  clear g2
  go_wp2_with fail
  refine (parses_yes _ _ _ _ (by rw [sz_app, sz_app, sz_app]; show l.length + u.length + m.length + v.length ≤ _; omega) (HL.out.bel G2.out) (by rw [dl_app, dl_app, dl_app]; exact q1.out)).mono ?_
  rintro e v3 ⟨rfl, g3⟩
  have G3 := Lib.hid (G2.out.trans g3)
  clear g3
  go_wp2
  go_ret
  exact ⟨rfl, G3.out⟩

end Go.Proofs.YteejjhdfebhagaaDoor.fnParseSums
