/- The reference's places and short: they return the digits of a fixed width, and a number over a power of ten without zeros at its end. Conditions: at most 9 places. -/
import Derived.Test.YtkagbpnmdflhjaaSDecW
import Derived.Test.YtkagbpnmdflhjaaPadPlain
import Derived.Test.YtkagbpnmdflhjaaPadW
import Derived.Test.YtkagbpnmdflhjaaNumPlain
namespace Go.Proofs.Ytkagbpnmdflhjaa
open Go.ChangeShapes Go.WideShapes Go.ChangeAt Go.RowKit
set_option linter.unusedVariables false

set_option maxHeartbeats 1000000 in
theorem places_is (v : Int) (p : Nat) (w : World) (h0 : 0 ≤ v) (h1 : v < 18446744073709551616) (hp : p ≤ 9) :
    Calls Try.prog 22 #[.int .u64 v, .int .i64 (p : Int)] w fun e w' => e = .returned (.string ⟨(pads p v.toNat).toArray⟩) ∧ Grown w w' := by
  go_enter Try.func22, Try.ntmps22
  go_wp2
  go_loopw [0, 5, 6] (fun x0 x5 x6 wr => ∃ (i : Nat) (q : Int) (l : List UInt8), i ≤ p ∧ 0 ≤ q ∧ q ≤ v ∧ v.toNat / 10 ^ i = q.toNat ∧ l = pads i v.toNat ∧ x0 = .int .u64 q ∧ x5 = .string ⟨l.toArray⟩ ∧ x6 = .int .i64 (i : Int) ∧ Grown w wr) (fun _ _ x6 _ => p - (intOf x6).toNat)
  case atStart => exact ⟨0, v, [], Nat.zero_le _, h0, by omega, by simp, rfl, rfl, rfl, rfl, Grown.refl _⟩
  case round =>
    obtain ⟨i, q, l, hi, hq0, hqv, hq, hl, rfl, rfl, rfl, hg⟩ := hrel
    have hll : l.length ≤ 9 := by rw [hl, pads_len]; omega
    have HQ := Lib.hid hq
    have HL := Lib.hid hl
    have HG := Lib.hid hg
    clear hq hl hg
    by_cases hlt : i < p
    · have hd : dec (q % 10).toNat = [dg q.toNat] := by
        rw [dec_small (by omega)]
        have : (q % 10).toNat = q.toNat % 10 := by omega
        rw [this, dg_mod]
      have D := Lib.hid hd
      clear hd
      go_wp2_with fail
      refine (digits_is _ (by omega) (by omega) D.out).mono ?_
      rintro e v1 ⟨rfl, g1⟩
      have G1 := Lib.hid g1
      clear g1
      go_wp2
      go_roundw
      case rel =>
        refine ⟨i + 1, q / 10, dg q.toNat :: l, by omega, by omega, by omega, ?_, ?_, rfl, ?_, by go_num, grown_trans HG.out G1.out⟩
        · rw [Nat.pow_succ, ← Nat.div_div_eq_div_mul, HQ.out]; omega
        · rw [pads, HQ.out, ← HL.out]
        · exact congrArg Value.string (ByteArray.mk_append_mk [dg q.toNat] l)
      case measure => simp [intOf]; omega
    · have hip : i = p := by omega
      subst hip
      clear hlt
      go_wp2
      go_ret
      rw [← HL.out]
      exact ⟨rfl, HG.out⟩

theorem pow_le9 {i : Nat} (h : i ≤ 9) : 10 ^ i ≤ 10 ^ 9 := Nat.pow_le_pow_right (by decide) h

theorem last_byte {l : List UInt8} (hl : 0 < l.length) (h : l.length - 1 < (ByteArray.mk l.toArray).size) : l.getLast? = some ((ByteArray.mk l.toArray)[l.length - 1]'h) := by
  rw [List.getLast?_eq_getElem?]
  show l[l.length - 1]? = some (l.toArray[l.length - 1]'(by simp; omega))
  rw [List.getElem_toArray, List.getElem?_eq_getElem]

theorem last48 {l : List UInt8} (hl : 0 < l.length) {h : l.length - 1 < (ByteArray.mk l.toArray).size} (e : (((ByteArray.mk l.toArray)[l.length - 1]'h).toNat == (48 : Int)) = true) : l.getLast? = some 48 := by
  rw [last_byte hl h]
  rw [beq_iff_eq] at e
  have : ((ByteArray.mk l.toArray)[l.length - 1]'h).toNat = (48 : UInt8).toNat := by simp; omega
  rw [UInt8.toNat_inj.1 this]

theorem not48 {l : List UInt8} (hl : 0 < l.length) {h : l.length - 1 < (ByteArray.mk l.toArray).size} (e : l.getLast? = some 48) : (((ByteArray.mk l.toArray)[l.length - 1]'h).toNat == (48 : Int)) = true := by
  rw [last_byte hl h] at e
  rw [Option.some.inj e]; rfl

theorem extract_take (l : List UInt8) (k : Nat) : (ByteArray.mk l.toArray).extract 0 k = ByteArray.mk (l.take k).toArray := by
  apply ByteArray.ext
  simp

set_option maxHeartbeats 2000000 in
theorem short_is (v : Int) (p : Nat) (w : World) (h0 : 0 ≤ v) (h1 : v < 18446744073709551616) (hp : p ≤ 9) :
    Calls Try.prog 19 #[.int .u64 v, .int .i64 (p : Int)] w fun e w' => e = .returned (.string ⟨(dec (v.toNat / 10 ^ p) ++ frac v.toNat p).toArray⟩) ∧ Grown w w' := by
  obtain ⟨D, eD⟩ : ∃ D, dec (v.toNat / 10 ^ p) = D := ⟨_, rfl⟩
  have zD : D.length ≤ 20 := by
    rw [← eD]
    refine dec_len (by omega) ?_
    have := Nat.div_le_self v.toNat (10 ^ p)
    omega
  have hF := frs_mod (v := v.toNat) (m := 10 ^ p) (i := p) ⟨1, by omega⟩
  have hpf := pads_frs (v.toNat % 10 ^ p) p
  rw [hF] at hpf
  have htr := frs_trimmed v.toNat p
  have hfl := frs_len v.toNat p
  have hfr : frac v.toNat p = if frs v.toNat p = [] then [] else 46 :: frs v.toNat p := rfl
  obtain ⟨F, eF⟩ : ∃ F, frs v.toNat p = F := ⟨_, rfl⟩
  obtain ⟨R, eR⟩ : ∃ R, frac v.toNat p = R := ⟨_, rfl⟩
  rw [eF] at hpf htr hfl hfr
  rw [eR] at hfr ⊢
  rw [eD]
  have HPF := Lib.hid hpf
  have TR := Lib.hid htr
  have ED := Lib.hid eD
  have RR := Lib.hid hfr
  clear htr eD hfr eF eR hF hpf
  go_enter Try.func19, Try.ntmps19
  go_wp2
  go_loop [5, 6] (fun x5 x6 => ∃ (i : Nat) (q : Int), i ≤ p ∧ q = ((10 ^ i : Nat) : Int) ∧ x5 = .int .u64 q ∧ x6 = .int .i64 (i : Int)) (fun _ x6 => p - (intOf x6).toNat)
  case atStart => exact ⟨0, 1, Nat.zero_le _, rfl, rfl, rfl⟩
  case round =>
    obtain ⟨i, q, hi, hq, rfl, rfl⟩ := hrel
    have hpw := pow_le9 (i := i) (by omega)
    have hq9 : 1 ≤ q ∧ q ≤ 1000000000 := by
      have := Nat.pow_pos (n := i) (show 0 < 10 by decide)
      omega
    obtain ⟨q1, q2⟩ := hq9
    have HQ := Lib.hid hq
    clear hq hpw
    by_cases hlt : i < p
    · go_wp2
      go_round
      case rel =>
        refine ⟨i + 1, q * 10, by omega, ?_, rfl, by go_num⟩
        rw [HQ.out, Nat.pow_succ]; omega
      case measure => simp [intOf]; omega
    · have hip : i = p := by omega
      subst hip
      clear hlt
      have hm : (v % q).toNat = v.toNat % 10 ^ i := by
        rw [HQ.out]
        obtain ⟨n, rfl⟩ := Int.eq_ofNat_of_zero_le h0
        rw [← Int.natCast_emod, Int.toNat_natCast, Int.toNat_natCast]
      have hdv : (v / q).toNat = v.toNat / 10 ^ i := by
        rw [HQ.out]
        obtain ⟨n, rfl⟩ := Int.eq_ofNat_of_zero_le h0
        rw [← Int.natCast_ediv, Int.toNat_natCast, Int.toNat_natCast]
      have hr1 := Int.emod_nonneg v (show q ≠ 0 by omega)
      have hr2 := Int.emod_lt_of_pos v (show 0 < q by omega)
      have hd1 := Int.ediv_nonneg h0 (show 0 ≤ q by omega)
      have hd2 : v / q ≤ v := Int.ediv_le_self _ h0
      have P := fun w => places_is (v % q) i w hr1 (by omega) hp
      rw [hm, HPF.out] at P
      have eD' : dec (v / q).toNat = D := by rw [hdv]; exact ED.out
      have PP := Lib.hid P
      have DD := Lib.hid eD'
      clear P eD' hm hdv hr1
      go_wp2_with fail
      refine (PP.out _).mono ?_
      rintro e v1 ⟨rfl, g1⟩
      have G1 := Lib.hid g1
      clear g1
      go_wp2
      go_loop [7] (fun s => ∃ j : Nat, F.length + j ≤ i ∧ s = .string ⟨(F ++ List.replicate j 48).toArray⟩) (fun s => slen s)
      case atStart => exact ⟨i - F.length, by omega, rfl⟩
      case round =>
        obtain ⟨j, hj, rfl⟩ := hrel
        cases j with
        | zero =>
          rw [List.replicate_zero, List.append_nil]
          by_cases hF0 : F = []
          · subst hF0
            have hR : R = [] := by rw [RR.out, if_pos rfl]
            subst hR
            go_wp2_with fail
            refine (digits_is _ hd1 (by omega) DD.out).mono ?_
            rintro e v2 ⟨rfl, g2⟩
            have G2 := Lib.hid g2
            clear g2
            go_wp2
            go_ret
            rw [List.append_nil]
            exact ⟨rfl, grown_trans G1.out G2.out⟩
          · have hR : R = 46 :: F := by rw [RR.out, if_neg hF0]
            subst hR
            have hFp : 0 < F.length := List.length_pos_iff.2 hF0
            have hFe : F.isEmpty = false := by cases F with
              | nil => exact absurd rfl hF0
              | cons c t => rfl
            have hFz : F.length ≤ 9 := by omega
            clear hF0
            go_wp2_with fail
            · exfalso
              have hsz : F.length - 1 < (ByteArray.mk F.toArray).size := by simp [ByteArray.size]; omega
              exact TR.out (last48 hFp (h := hsz) (by assumption))
            · refine (digits_is _ hd1 (by omega) DD.out).mono ?_
              rintro e v2 ⟨rfl, g2⟩
              have G2 := Lib.hid g2
              clear g2
              go_wp2
              go_ret
              exact ⟨ret_str (by apply ByteArray.ext; simp [ByteArray.data_append]), grown_trans G1.out G2.out⟩
        | succ j =>
          obtain ⟨G, hG⟩ : ∃ G, F ++ List.replicate (j + 1) 48 = G := ⟨_, rfl⟩
          have hGl : G.length = F.length + j + 1 := by rw [← hG]; simp; omega
          have hG1 : 0 < G.length := by omega
          have hG9 : G.length ≤ 9 := by omega
          have hGe : G.isEmpty = false := by
            cases G with
            | nil => simp at hG1
            | cons c t => rfl
          rw [hG]
          have HG := Lib.hid hG
          have HL := Lib.hid hGl
          clear hG hGl
          go_wp2_with fail
          · refine ⟨⟨j, by omega, ?_⟩, ?_⟩
            · refine congrArg Value.string ?_
              rw [extract_take, ← HG.out]
              congr 2
              rw [List.replicate_succ', ← List.append_assoc]
              exact List.take_left' (by simp)
            · rw [extract_take]
              simp [slen, ByteArray.size]
              omega
          · exfalso
            have hsz : G.length - 1 < (ByteArray.mk G.toArray).size := by simp [ByteArray.size]; omega
            have h48 : ((((ByteArray.mk G.toArray)[G.length - 1]'hsz).toNat : Int) == 48) = false := by assumption
            have hl : G.getLast? = some 48 := by rw [← HG.out, List.replicate_succ', ← List.append_assoc]; simp
            rw [not48 hG1 hl] at h48
            cases h48

theorem short_eq {v : Int} {p : Nat} {l : List UInt8} (w : World) (h0 : 0 ≤ v) (h1 : v < 18446744073709551616) (hp : p ≤ 9) (hl : dec (v.toNat / 10 ^ p) ++ frac v.toNat p = l) :
    Calls Try.prog 19 #[.int .u64 v, .int .i64 (p : Int)] w fun e w' => e = .returned (.string ⟨l.toArray⟩) ∧ Grown w w' := by
  subst hl
  exact short_is v p w h0 h1 hp

theorem ssize_is {d t : Int} (w : World) (b1 : -9223372036854775808 ≤ d) (b2 : d ≤ 9223372036854775807) (ht : sized d = t) :
    Calls Try.prog 17 #[.int .i64 d] w fun e w' => e = .returned (.int .u64 t) ∧ w = w' := by
  subst ht
  by_cases hd : d < 0
  · go_enter Try.func17, Try.ntmps17
    go_wp2
    go_ret
    exact ⟨ret_int (size_neg b1 hd), rfl⟩
  · have ht : sized d = d := by unfold sized; rw [if_neg hd]
    rw [ht]
    clear ht
    go_enter Try.func17, Try.ntmps17
    go_wp2
    go_ret
    exact ⟨rfl, rfl⟩

end Go.Proofs.Ytkagbpnmdflhjaa
