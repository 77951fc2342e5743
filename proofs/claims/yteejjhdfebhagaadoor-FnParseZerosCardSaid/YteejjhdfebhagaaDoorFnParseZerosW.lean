/- The law FnParseZeros returns true for every input, where the listed package variables hold what the program lays into them. Zeros in front of a number and at the end of its fraction make no difference. -/
import Derived.Test.YteejjhdfebhagaaDoorRows
import Derived.WalkKit
import Derived.ProofKit
import Derived.OpenShut
import Derived.Test.YteejjhdfebhagaaDoorLawsW
import Derived.Test.YteejjhdfebhagaaDoorUBounds
import Derived.Test.YteejjhdfebhagaaDoorAddsStr
namespace Go.Proofs.YteejjhdfebhagaaDoor.fnParseZeros
open Go.ChangeShapes Go.WideShapes Go.ChangeAt Go.RowKit
set_option linter.unusedVariables false

theorem zs_digits (z : Nat) : digits (List.replicate z 48) := by
  intro c hc
  have := (List.mem_replicate.1 hc).2
  subst this
  rfl
theorem zs_val (z : Nat) : dval (List.replicate z 48) 0 = 0 := by
  induction z with
  | zero => rfl
  | succ z ih => rw [List.replicate_succ, dval_cons]; exact ih
theorem front {n k z : Nat} (hk : k ≤ 7) (hn : n ≤ 1000000) {l u : List UInt8} (hl : dec n = l) (hu : uname k = u) : parse vf (List.replicate z 48 ++ l ++ u) = if n * uby k ≤ two63 - 1 then some ((n * uby k : Nat) : Int) else none := by
  subst hl
  subst hu
  have hd := digits_append (zs_digits z) (digits_dec n)
  have hne : List.replicate z 48 ++ dec n ≠ [] := by
    intro e; have := congrArg List.length e; rw [List.length_append, List.length_nil] at this; have := dec_pos_len n; omega
  have h1 := num_plain vf hd hne (uname_ne hk) (uname_units hk) (uname_by hk) (uby_pos k)
  rw [dval_append, zs_val, dval_dec] at h1
  exact h1
theorem behind {n k z : Nat} (hk : k ≤ 7) (hn : n ≤ 1000000) {l u : List UInt8} (hl : dec n = l) (hu : uname k = u) : parse vf (l ++ [46] ++ List.replicate z 48 ++ u) = if n * uby k ≤ two63 - 1 then some ((n * uby k : Nat) : Int) else none := by
  subst hl
  subst hu
  have h1 : n * uby k ≤ 1000000 * 3600000000000 := Nat.mul_le_mul hn (uby_le k)
  have A := adds_point vf (A := dec n) (B := List.replicate z 48) (x := 0) (digits_dec n) (zs_digits z) (Or.inl (dec_ne n)) (uname_ne hk) (uname_units hk) (uname_by hk) (uby_pos k) (by rw [zs_val]; decide) (Or.inl ⟨zs_val z, rfl⟩) (by rw [dval_dec]; unfold two63; omega)
  rw [dval_dec, Nat.add_zero] at A
  have e : dec n ++ [46] ++ List.replicate z 48 ++ uname k = dec n ++ (46 :: (List.replicate z 48 ++ uname k)) := by simp
  rw [e]
  obtain ⟨l1, l2⟩ := long_of (dec_ne n) (List.cons_ne_nil 46 (List.replicate z 48 ++ uname k))
  exact A.parse (by unfold two64; omega) (unsign_app (digits_dec n) (dec_ne n) _) l1 l2

set_option maxHeartbeats 4000000 in
theorem walk (a0 : Int) (a1 : Int) (a2 : Int) (w0 : (Lit.int .u64 a0).wf = true) (w1 : (Lit.int .i64 a1).wf = true) (w2 : (Lit.int .i64 a2).wf = true) (w : World) (hL : laidMetH Tryd.prog Rows.fnParseZerosRow.laid w) :
    Calls Tryd.prog 13 #[.int .u64 a0, .int .i64 a1, .int .i64 a2] w fun e w' => e = .returned (.bool true) ∧ Bel w w' := by
  obtain ⟨b01, b02⟩ := ubounds_of w0
  obtain ⟨b11, b12⟩ := bounds_of w1
  obtain ⟨b21, b22⟩ := bounds_of w2
  have HL := Lib.hid (of_laid hL)
  clear w0 w1 w2 hL
  by_cases c0 : a2 < 0
  · go_enter Tryd.func13, Tryd.ntmps13
    go_wp2
    go_ret
    exact ⟨rfl, Bel.refl _⟩
  by_cases c1 : 7 < a2
  · go_enter Tryd.func13, Tryd.ntmps13
    go_wp2
    go_ret
    exact ⟨rfl, Bel.refl _⟩
  by_cases c2 : a1 < 0
  · go_enter Tryd.func13, Tryd.ntmps13
    go_wp2
    go_ret
    exact ⟨rfl, Bel.refl _⟩
  by_cases c3 : 100 < a1
  · go_enter Tryd.func13, Tryd.ntmps13
    go_wp2
    go_ret
    exact ⟨rfl, Bel.refl _⟩
  by_cases c4 : 1000000 < a0
  · go_enter Tryd.func13, Tryd.ntmps13
    go_wp2
    go_ret
    exact ⟨rfl, Bel.refl _⟩
  have h0 : 0 ≤ a2 := by omega
  have h1 : a2 ≤ 7 := by omega
  have h3 : 0 ≤ a1 := by omega
  have h4 : a1 ≤ 100 := by omega
  have h2 : a0 ≤ 1000000 := by omega
  clear c0 c1 c2 c3 c4
  obtain ⟨u, hu⟩ : ∃ u, uname a2.toNat = u := ⟨_, rfl⟩
  obtain ⟨B, hB⟩ : ∃ B : Int, (uby a2.toNat : Int) = B := ⟨_, rfl⟩
  obtain ⟨l, hl⟩ : ∃ l, dec a0.toNat = l := ⟨_, rfl⟩
  have hB1 : 1 ≤ B := by have := uby_pos a2.toNat; omega
  have hB2 : B ≤ 3600000000000 := by have := uby_le a2.toNat; omega
  have hl1 : l.length ≤ 20 := by rw [← hl]; exact dec_20 (by omega)
  have hu1 : u.length ≤ 3 := by rw [← hu]; exact (uname_len _).2
  obtain ⟨P, hP⟩ : ∃ P : Int, a0 * B = P := ⟨_, rfl⟩
  have hPn : ((a0.toNat * uby a2.toNat : Nat) : Int) = P := by rw [← hP, ← hB, Int.natCast_mul, Int.toNat_of_nonneg b01]
  have n1 : a0.toNat * uby a2.toNat ≤ 1000000 * 3600000000000 := Nat.mul_le_mul (by omega) (uby_le _)
  have hP0 : 0 ≤ P := by omega
  have hP1 : P ≤ 3600000000000000000 := by omega
  obtain ⟨D, hD⟩ : ∃ D, fitD P false = D := ⟨_, rfl⟩
  obtain ⟨O, hO⟩ : ∃ O, fitO P false = O := ⟨_, rfl⟩
  have q1 : Hid (Reads (List.replicate a1.toNat 48 ++ l ++ u) D O) := Lib.hid (by rw [← hD, ← hO]; exact reads_pos hPn (front (by omega) (by omega) hl hu))
  have q2 : Hid (Reads (l ++ [46] ++ List.replicate a1.toNat 48 ++ u) D O) := Lib.hid (by rw [← hD, ← hO]; exact reads_pos hPn (behind (by omega) (by omega) hl hu))
  have cU := fun w => unitOf_is w h0 h1 hu hB
  have cF := fun w => fits_is P false w (by omega) (by omega)
  rw [hD, hO] at cF
  have HLU := Lib.hid hl
  clear hu hB hl hPn n1 hD hO
  go_enter Tryd.func13, Tryd.ntmps13
  go_wp2_with fail
  refine (cU _).mono ?_
  rintro e v1 ⟨rfl, rfl⟩
  clear cU
  go_wp2_with fail
  go_loopg [9, 10] a1.toNat (fun gk x9 x10 wr => ∃ i : Nat, i ≤ a1.toNat ∧ a1.toNat - i ≤ gk ∧ x9 = .string ⟨(List.replicate i (48 : UInt8)).toArray⟩ ∧ x10 = .int .i64 (i : Int) ∧ w = wr)
  case atStart => exact ⟨0, by omega, by omega, rfl, rfl, rfl⟩
  case round =>
    obtain ⟨i, hi1, hi2, rfl, rfl, rfl⟩ := hrel
    obtain ⟨r, hr⟩ : ∃ r, List.replicate i (48 : UInt8) = r := ⟨_, rfl⟩
    have hrl : r.length ≤ 100 := by rw [← hr, List.length_replicate]; omega
    rw [hr]
    by_cases hlt : (i : Int) < a1
    · have HR := Lib.hid hr
      clear hr
      go_wp2_with fail
      go_roundg (a1.toNat - (i + 1))
      case measure => omega
      case rel =>
        refine ⟨i + 1, by omega, by omega, ?_, by go_num, rfl⟩
        rw [List.replicate_succ', HR.out]
        exact congrArg Value.string (ByteArray.mk_append_mk r [48])
    · have HI : Hid (i = a1.toNat) := Lib.hid (by omega)
      have HR : Hid (r = List.replicate a1.toNat 48) := Lib.hid (by rw [← hr, HI.out])
      clear hr
      go_wp2_with fail
      refine (cF _).mono ?_
      rintro e v1 ⟨rfl, rfl⟩
      clear cF
      go_wp2_with fail
      refine (decB_is _ b01 (by omega) HLU.out).mono ?_
      rintro e v1 ⟨rfl, g1⟩
      have G1 := Lib.hid g1
      clear g1
      go_wp2_with fail
      refine (parses_yes _ _ _ _ (by rw [sz_app, sz_app]; show r.length + l.length + u.length ≤ _; omega) (HL.out.bel G1.out) (by rw [dl_app, dl_app]; show Reads (r ++ l ++ u) _ _; rw [HR.out]; exact q1.out)).mono ?_
      rintro e v2 ⟨rfl, g2⟩
      have G2 := Lib.hid (Bel.trans G1.out g2)
      clear g2
      go_wp2_with fail
      refine (decB_is _ b01 (by omega) HLU.out).mono ?_
      rintro e v3 ⟨rfl, g3⟩
      have G3 := Lib.hid (G2.out.trans g3)
      clear g3
      go_wp2_with fail
      refine (parses_yes _ _ _ _ (by rw [sz_app, sz_app, sz_app]; show l.length + 1 + r.length + u.length ≤ _; omega) (HL.out.bel G3.out) (by rw [dl_app, dl_app, dl_app]; show Reads (l ++ [46] ++ r ++ u) _ _; rw [HR.out]; exact q2.out)).mono ?_
      rintro e v4 ⟨rfl, g4⟩
      have G4 := Lib.hid (Bel.trans G3.out g4)
      clear g4
      go_wp2
      go_ret
      exact ⟨rfl, G4.out⟩

end Go.Proofs.YteejjhdfebhagaaDoor.fnParseZeros
