/- The law FnStringFraction returns true for every input. The fraction without zeros at its end. No condition beyond the kinds of the arguments. -/
import Derived.Test.YtkagbpnmdflhjaaRows
import Derived.WalkKit
import Derived.ProofKit
import Derived.OpenShut
import Derived.Test.YtkagbpnmdflhjaaStrWhole
import Derived.Test.YtkagbpnmdflhjaaPadW
import Derived.Test.YtkagbpnmdflhjaaParseStr
import Derived.Lib.Hide
namespace Go.Proofs.Ytkagbpnmdflhjaa.fnStringFraction
open Go.ChangeShapes Go.WideShapes Go.ChangeAt Go.RowKit
set_option linter.unusedVariables false

theorem last_byte {l : List UInt8} (hl : 0 < l.length) (h : l.length - 1 < (ByteArray.mk l.toArray).size) : l.getLast? = some ((ByteArray.mk l.toArray)[l.length - 1]'h) := by
  rw [List.getLast?_eq_getElem?]
  show l[l.length - 1]? = some (l.toArray[l.length - 1]'(by simp; omega))
  rw [List.getElem_toArray, List.getElem?_eq_getElem]

theorem last48 {l : List UInt8} (hl : 0 < l.length) {h : l.length - 1 < (ByteArray.mk l.toArray).size} (e : (((ByteArray.mk l.toArray)[l.length - 1]'h).toNat == (48 : Int)) = true) : l.getLast? = some 48 := by
  rw [last_byte hl h]
  rw [beq_iff_eq] at e
  have : ((ByteArray.mk l.toArray)[l.length - 1]'h).toNat = (48 : UInt8).toNat := by simp; omega
  rw [UInt8.toNat_inj.1 this]

theorem not48 {l : List UInt8} (hl : 0 < l.length) {h : l.length - 1 < (ByteArray.mk l.toArray).size} (e : l.getLast? = some 48) : (((ByteArray.mk l.toArray)[l.length - 1]'h).toNat == (48 : Int)) = true := by
  rw [last_byte hl h] at e
  rw [Option.some.inj e]; rfl

theorem extract_take (l : List UInt8) (k : Nat) : (ByteArray.mk l.toArray).extract 0 k = ByteArray.mk (l.take k).toArray := by
  apply ByteArray.ext
  simp

theorem frs_ne {n : Nat} (h3 : 1 ≤ n) (h4 : n ≤ 999999999) : frs n 9 ≠ [] := by
  intro h
  have h9 := dval_frs n 9
  rw [h, dval_nil, Nat.zero_mul] at h9
  omega

theorem str_frac (s n : Nat) (h1 : 1 ≤ s) (h2 : s ≤ 59) (h3 : 1 ≤ n) (h4 : n ≤ 999999999) : str ((s * 1000000000 + n : Nat) : Int) = dec s ++ (46 :: (frs n 9 ++ [115])) := by
  obtain ⟨u, hu⟩ : ∃ u, u = s * 1000000000 + n := ⟨_, rfl⟩
  rw [← hu, str_nat]
  have q1 : u / 1000000000 = s := by omega
  rw [strU_s (by omega) (by rw [q1]; omega), q1, Nat.mod_eq_of_lt (by omega)]
  have hm : frac u 9 = frac n 9 := by
    have := frac_mod (v := u) (m := 10 ^ 9) (i := 9) ⟨1, rfl⟩
    rw [← this, show u % 10 ^ 9 = n by omega]
  rw [hm]
  unfold frac
  rw [if_neg (frs_ne h3 h4)]
  rfl

set_option maxHeartbeats 2000000 in
theorem walk (a0 : Int) (a1 : Int) (w0 : (Lit.int .i64 a0).wf = true) (w1 : (Lit.int .i64 a1).wf = true) (w : World) :
    Calls Try.prog 4 #[.int .i64 a0, .int .i64 a1] w fun e w' => e = .returned (.bool true) ∧ Grown w w' := by
  obtain ⟨b01, b02⟩ := bounds_of w0
  obtain ⟨b11, b12⟩ := bounds_of w1
  clear w0 w1
  by_cases q4 : a0 < 1
  · go_enter Try.func4, Try.ntmps4
    go_wp2
    go_ret
    exact ⟨ret_bool (by first | rfl | (simp; done)), Grown.refl _⟩
  · have p4 : 1 ≤ a0 := by omega
    clear q4
    by_cases q3 : 59 < a0
    · go_enter Try.func4, Try.ntmps4
      go_wp2
      go_ret
      exact ⟨ret_bool (by first | rfl | (simp; done)), Grown.refl _⟩
    · have p3 : a0 ≤ 59 := by omega
      clear q3
      by_cases q2 : a1 < 1
      · go_enter Try.func4, Try.ntmps4
        go_wp2
        go_ret
        exact ⟨ret_bool (by first | rfl | (simp; done)), Grown.refl _⟩
      · have p2 : 1 ≤ a1 := by omega
        clear q2
        by_cases q1 : 999999999 < a1
        · go_enter Try.func4, Try.ntmps4
          go_wp2
          go_ret
          exact ⟨ret_bool (by first | rfl | (simp; done)), Grown.refl _⟩
        · have p1 : a1 ≤ 999999999 := by omega
          clear q1
          have hs := str_frac a0.toNat a1.toNat (by omega) (by omega) (by omega) (by omega)
          rw [show ((a0.toNat * 1000000000 + a1.toNat : Nat) : Int) = a0 * 1000000000 + a1 by omega] at hs
          have hpf := pads_frs a1.toNat 9
          have htr := frs_trimmed a1.toNat 9
          have hfl := frs_len a1.toNat 9
          have hfn := frs_ne (n := a1.toNat) (by omega) (by omega)
          have P := padded_is a1
          obtain ⟨x0, e0⟩ : ∃ x, dec a0.toNat = x := ⟨_, rfl⟩
          have z0 : x0.length ≤ 20 := by rw [← e0]; exact dec_len (by omega) (by omega)
          obtain ⟨F, eF⟩ : ∃ F, frs a1.toNat 9 = F := ⟨_, rfl⟩
          rw [eF] at hs hpf htr hfl hfn
          rw [hpf] at P
          rw [e0] at hs
          have S := Lib.hid hs
          have D0 := Lib.hid e0
          have PP := Lib.hid P
          have TR := Lib.hid htr
          have FN := Lib.hid hfn
          clear hs e0 P hpf htr eF hfn
          go_enter Try.func4, Try.ntmps4
          go_wp2_with fail
          refine (PP.out _ (by omega) (by omega)).mono ?_
          rintro e v1 ⟨rfl, g1⟩
          have G1 := Lib.hid g1
          clear g1
          go_wp2
          go_loop [5] (fun s => ∃ j : Nat, F.length + j ≤ 9 ∧ s = .string ⟨(F ++ List.replicate j 48).toArray⟩) (fun s => slen s)
          case atStart => exact ⟨9 - F.length, by omega, rfl⟩
          case round =>
            obtain ⟨j, hj, rfl⟩ := hrel
            have hFp : 0 < F.length := List.length_pos_iff.2 FN.out
            cases j with
            | zero =>
              rw [List.replicate_zero, List.append_nil]
              go_wp2_with fail
              · exfalso
                have hsz : F.length - 1 < (ByteArray.mk F.toArray).size := by simp [ByteArray.size]; omega
                exact TR.out (last48 hFp (h := hsz) (by assumption))
              · refine (string_is _ (by omega) (by omega) S.out).mono ?_
                rintro e w' ⟨rfl, rfl⟩
                go_wp2_with fail
                refine (decimal_is _ (by omega) (by omega) D0.out).mono ?_
                rintro e v2 ⟨rfl, g2⟩
                have G2 := Lib.hid g2
                clear g2
                go_wp2
                go_ret
                exact ⟨ret_bool (by rw [beq_iff_eq]; simp [ByteArray.toList_eq, ByteArray.data_append]), grown_trans (grown_bw (grown_trans (Grown.refl _) G1.out) _ _ _) G2.out⟩
            | succ j =>
              obtain ⟨G, hG⟩ : ∃ G, F ++ List.replicate (j + 1) 48 = G := ⟨_, rfl⟩
              have hGl : G.length = F.length + j + 1 := by rw [← hG]; simp; omega
              have hG1 : 0 < G.length := by omega
              have hG9 : G.length ≤ 9 := by omega
              rw [hG]
              have HG := Lib.hid hG
              have HL := Lib.hid hGl
              clear hG hGl
              go_wp2_with fail
              · refine ⟨⟨j, by omega, ?_⟩, ?_⟩
                · refine congrArg Value.string ?_
                  rw [extract_take, ← HG.out]
                  congr 2
                  rw [List.replicate_succ', ← List.append_assoc]
                  exact List.take_left' (by simp)
                · rw [extract_take]
                  simp [slen, ByteArray.size]
                  omega
              · exfalso
                have hsz : G.length - 1 < (ByteArray.mk G.toArray).size := by simp [ByteArray.size]; omega
                have h48 : ((((ByteArray.mk G.toArray)[G.length - 1]'hsz).toNat : Int) == 48) = false := by assumption
                have hl : G.getLast? = some 48 := by rw [← HG.out, List.replicate_succ', ← List.append_assoc]; simp
                rw [not48 hG1 hl] at h48
                cases h48

end Go.Proofs.Ytkagbpnmdflhjaa.fnStringFraction
