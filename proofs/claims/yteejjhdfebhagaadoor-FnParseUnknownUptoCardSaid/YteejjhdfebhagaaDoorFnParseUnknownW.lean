/- The law FnParseUnknown returns true for every input of bulk at most 1048576, where the listed package variables hold what the program lays into them. A letter that begins no unit is no unit. -/
import Derived.Test.YteejjhdfebhagaaDoorRows
import Derived.WalkKit
import Derived.ProofKit
import Derived.OpenShut
import Derived.Test.YteejjhdfebhagaaDoorLawsW
import Derived.Test.YteejjhdfebhagaaDoorUBounds
import Derived.Test.YteejjhdfebhagaaDoorAddsStr
import Derived.Deep.LoopGhost
import Derived.Outline
namespace Go.Proofs.YteejjhdfebhagaaDoor.fnParseUnknown
open Go.ChangeShapes Go.WideShapes Go.ChangeAt Go.RowKit
set_option linter.unusedVariables false

theorem by_none {u : List UInt8} (h : ∀ k, k < 8 → uname k ≠ u) : unitBy u = none := by
  unfold unitBy
  rw [if_neg (fun e => h 0 (by decide) e.symm), if_neg (fun e => h 1 (by decide) e.symm), if_neg (fun e => h 2 (by decide) e.symm), if_neg (fun e => h 3 (by decide) e.symm), if_neg (fun e => h 4 (by decide) e.symm), if_neg (fun e => h 5 (by decide) e.symm), if_neg (fun e => h 6 (by decide) e.symm), if_neg (fun e => h 7 (by decide) e.symm)]
theorem unknown {n : Nat} {l u : List UInt8} (hl : dec n = l) (h0 : u ≠ []) (hu : units u) (hb : ∀ k, k < 8 → uname k ≠ u) : Reads (l ++ u) 0 false := by
  subst hl
  obtain ⟨l1, l2⟩ := long_of (dec_ne n) h0
  refine Or.inr ⟨rfl, rfl, parse_plain (unsign_app (digits_dec n) (dec_ne n) u) l1 l2 (pl_none l2 ?_)⟩
  have hd := digits_dec n
  obtain ⟨c, A, hcA⟩ : ∃ c A, dec n = c :: A := by
    cases h : dec n with
    | nil => exact absurd h (dec_ne n)
    | cons c A => exact ⟨c, A, rfl⟩
  have hc : inUnit c = false := by rw [hcA] at hd; exact dig_noUnit (digits_cons hd).1
  have hnd : noDig u := by have := unit_noDig (rest := []) h0 hu; rwa [List.append_nil] at this
  by_cases hv : n ≤ two63
  · have hl : lint (dec n ++ u) 0 = some (n, u) := by rw [lint_digits _ _ 0 hd (by rw [dval_dec]; exact hv), lint_stop hnd, dval_dec]
    have hp : part u = (0, 0, u, false) := by have := part_unit (rest := []) h0 hu; rwa [List.append_nil] at this
    rw [hcA, List.cons_append] at hl ⊢
    rw [step_go hc hl hp (by
      have : (u.length == (c :: (A ++ u)).length) = false := by rw [beq_eq_false_iff_ne]; simp; omega
      rw [this]; rfl)]
    unfold unitPart
    have ht := take_unit (rest := []) hu noUnit_nil
    rw [List.append_nil] at ht
    rw [ht, if_neg h0, by_none hb]
  · rw [hcA, List.cons_append]
    refine step_nolint hc ?_
    rw [← List.cons_append, ← hcA]
    exact lint_over _ _ 0 hd (Nat.zero_le _) (by rw [dval_dec]; omega)
theorem zero_of {k : Nat} (hk : k ≤ 7) : Reads ([48] ++ uname k) 0 true := by
  have h := num_plain vf (A := [48]) (by intro c hc; simp at hc; subst hc; rfl) (by decide) (uname_ne hk) (uname_units hk) (uname_by hk) (uby_pos k)
  have e : dval [48] 0 * uby k = 0 := Nat.zero_mul _
  rw [e] at h
  exact Or.inl ⟨rfl, h.trans (if_pos (Nat.zero_le _))⟩
theorem hour : Reads [49, 104] 3600000000000 true := by
  have h := num_plain vf (A := [49]) (by intro c hc; simp at hc; subst hc; rfl) (by decide) (u := [104]) (by decide) (units_of (by decide)) (b := 3600000000000) (by decide) (by decide)
  exact Or.inl ⟨rfl, h.trans (if_pos (by decide))⟩

set_option maxHeartbeats 4000000 in
theorem walk (a0 : Int) (s1 : ByteArray) (w0 : (Lit.int .u64 a0).wf = true) (z1 : s1.size ≤ 1048576) (w : World) (hL : laidMetH Tryd.prog Rows.fnParseUnknownRow.laid w) :
    Calls Tryd.prog 12 #[.int .u64 a0, .string s1] w fun e w' => e = .returned (.bool true) ∧ Bel w w' := by
  obtain ⟨b01, b02⟩ := ubounds_of w0
  have HL := Lib.hid (of_laid hL)
  clear w0 hL
  by_cases hs0 : s1.size = 0
  · have k2 : s1.toList.isEmpty = true := by have := empty_yes hs0; simpa using this
    have k3 : s1.toList = [] := by rw [tl, empty_is hs0]
    clear hs0
    go_enter Tryd.func12, Tryd.ntmps12
    go_wp2_with fail
    refine (parses_yes _ _ _ _ (by skip; show 0 ≤ _; omega) (HL.out.bel (Bel.refl _)) (by skip; exact (Or.inr ⟨rfl, rfl, rfl⟩))).mono ?_
    rintro e v1 ⟨rfl, g1⟩
    have G1 := Lib.hid (Bel.trans (Bel.refl _) g1)
    clear g1
    go_wp2_with fail
    refine (parses_yes _ _ _ _ (by skip; show 1 ≤ _; omega) (HL.out.bel G1.out) (by skip; exact (Or.inr ⟨rfl, rfl, rfl⟩))).mono ?_
    rintro e v2 ⟨rfl, g2⟩
    have G2 := Lib.hid (Bel.trans G1.out g2)
    clear g2
    go_wp2_with fail
    refine (parses_yes _ _ _ _ (by skip; show 1 ≤ _; omega) (HL.out.bel G2.out) (by skip; exact (Or.inr ⟨rfl, rfl, rfl⟩))).mono ?_
    rintro e v3 ⟨rfl, g3⟩
    have G3 := Lib.hid (Bel.trans G2.out g3)
    clear g3
    go_wp2_with fail
    refine (parses_yes _ _ _ _ (by skip; show 2 ≤ _; omega) (HL.out.bel G3.out) (by skip; exact hour)).mono ?_
    rintro e v4 ⟨rfl, g4⟩
    have G4 := Lib.hid (Bel.trans G3.out g4)
    clear g4
    go_wp2
    go_ret
    exact ⟨rfl, G4.out⟩
  · have k2 : s1.toList.isEmpty = false := by have := empty_no (s := s1) (by omega); simpa using this
    have HNE : Hid (s1.data.toList ≠ []) := Lib.hid (by intro e; have := list_len s1; rw [e] at this; simp at this; omega)
    go_enter Tryd.func12, Tryd.ntmps12
    go_wp2_with fail
    go_loopg [5, 6] s1.size (fun gk x5 x6 wr => ∃ i : Nat, i ≤ s1.size ∧ s1.size - i ≤ gk ∧ (∀ c ∈ s1.data.toList.take i, inUnit c = true) ∧ x5 = .int .i64 (i : Int) ∧ w = wr)
    case atStart => exact ⟨0, by omega, by omega, by simp, rfl, rfl⟩
    case round =>
      obtain ⟨i, hi1, hi2, hall, rfl, rfl⟩ := hrel
      have HALL := Lib.hid hall
      clear hall
      by_cases hlt : i < s1.size
      · obtain ⟨c, hcc⟩ : ∃ c, s1[i] = c := ⟨_, rfl⟩
        have HT : Hid (s1.data.toList.take (i + 1) = s1.data.toList.take i ++ [c]) := Lib.hid (by rw [List.take_succ_eq_append_getElem (by rw [list_len]; exact hlt), ← hcc]; rfl)
        have hcl : c.toNat < 256 := c.toNat_lt
        by_cases h46 : c.toNat = 46
        · have e2 : ((c.toNat : Int) == 46) = true := by rw [beq_iff_eq]; omega
          clear h46
          go_wp2_with fail
          go_ret
          exact ⟨rfl, Bel.refl _⟩
        · have e2 : ((c.toNat : Int) == 46) = false := by rw [beq_eq_false_iff_ne]; omega
          by_cases hdg : 48 ≤ c.toNat ∧ c.toNat ≤ 57
          · obtain ⟨d1, d2⟩ := hdg
            go_wp2_with fail
            go_ret
            exact ⟨rfl, Bel.refl _⟩
          · have HU : Hid (∀ x ∈ s1.data.toList.take (i + 1), inUnit x = true) := Lib.hid (by
              intro x hx
              rw [HT.out, List.mem_append] at hx
              rcases hx with hx | hx
              · exact HALL.out x hx
              · simp at hx; subst hx; exact inUnit_yes h46 hdg)
            rcases Nat.lt_or_ge c.toNat 48 with h9 | h9
            · go_wp2_with fail
              go_roundg (s1.size - (i + 1))
              case measure => omega
              case rel => exact ⟨i + 1, by omega, by omega, HU.out, by go_num, rfl⟩
            · have h57 : 57 < c.toNat := by omega
              go_wp2_with fail
              go_roundg (s1.size - (i + 1))
              case measure => omega
              case rel => exact ⟨i + 1, by omega, by omega, HU.out, by go_num, rfl⟩
      · have HU : Hid (units s1.data.toList) := Lib.hid (by
          intro x hx
          refine HALL.out x ?_
          rwa [List.take_of_length_le (by rw [list_len]; omega)])
        go_wp2_with fail
        go_loopg [7, 8, 9] 8 (fun gk x7 x8 x9 wr => ∃ k : Nat, k ≤ 8 ∧ 8 - k ≤ gk ∧ (∀ j, j < k → uname j ≠ s1.data.toList) ∧ x7 = .int .i64 (k : Int) ∧ w = wr)
        case atStart => exact ⟨0, by omega, by omega, (fun j hj => by omega), rfl, rfl⟩
        case round =>
          obtain ⟨k, hk1, hk2, hno, rfl, rfl⟩ := hrel
          have HNO := Lib.hid hno
          clear hno
          by_cases hk : k < 8
          · obtain ⟨u, hu⟩ : ∃ u, uname k = u := ⟨_, rfl⟩
            obtain ⟨B, hB⟩ : ∃ B : Int, (uby k : Int) = B := ⟨_, rfl⟩
            have cU := fun w => unitOf_is (k := (k : Int)) (u := u) (B := B) w (by omega) (by omega) (by rw [Int.toNat_natCast]; exact hu) (by rw [Int.toNat_natCast]; exact hB)
            have hu3 : u.length ≤ 3 := by rw [← hu]; exact (uname_len _).2
            have HUK := Lib.hid hu
            clear hu hB
            by_cases he : u = s1.data.toList
            · have he1 : (u == s1.toList) = true := by rw [tl, he]; exact beq_self_eq_true _
              have HE : Hid (Reads ([48] ++ s1.data.toList) 0 true) := Lib.hid (by rw [← he, ← HUK.out]; exact zero_of (by omega))
              clear he
              go_wp2_with fail
              refine (cU _).mono ?_
              rintro e v1 ⟨rfl, rfl⟩
              clear cU
              go_wp2_with fail
              refine (parses_yes _ _ _ _ (by rw [sz_app]; show 1 + s1.size ≤ _; omega) (HL.out.bel (Bel.refl _)) (by rw [dl_app]; exact HE.out)).mono ?_
              rintro e v2 ⟨rfl, g2⟩
              have G2 := Lib.hid g2
              clear g2
              go_wp2
              go_ret
              exact ⟨rfl, G2.out⟩
            · have he1 : (u == s1.toList) = false := by rw [tl, beq_eq_false_iff_ne]; exact he
              have HE : Hid (∀ j, j < k + 1 → uname j ≠ s1.data.toList) := Lib.hid (by
                intro j hj
                rcases Nat.lt_or_ge j k with h | h
                · exact HNO.out j h
                · obtain rfl : j = k := by omega
                  rw [HUK.out]; exact he)
              clear he
              go_wp2_with fail
              refine (cU _).mono ?_
              rintro e v1 ⟨rfl, rfl⟩
              clear cU
              go_wp2_with fail
              go_roundg (8 - (k + 1))
              case measure => omega
              case rel => exact ⟨k + 1, by omega, by omega, HE.out, by go_num, rfl⟩
          · obtain ⟨l, hl⟩ : ∃ l, dec a0.toNat = l := ⟨_, rfl⟩
            have hl1 : l.length ≤ 20 := by rw [← hl]; exact dec_20 (by omega)
            have q1 : Hid (Reads (l ++ s1.data.toList) 0 false) := Lib.hid (unknown hl HNE.out HU.out (fun j hj => HNO.out j (by omega)))
            have HLU := Lib.hid hl
            clear hl
            go_wp2_with fail
            refine (decB_is _ b01 (by omega) HLU.out).mono ?_
            rintro e v1 ⟨rfl, g1⟩
            have G1 := Lib.hid g1
            clear g1
            go_wp2_with fail
            refine (parses_yes _ _ _ _ (by rw [sz_app]; show l.length + s1.size ≤ _; omega) (HL.out.bel G1.out) (by rw [dl_app]; exact q1.out)).mono ?_
            rintro e v2 ⟨rfl, g2⟩
            have G2 := Lib.hid (G1.out.trans g2)
            clear g2
            go_wp2
            go_ret
            exact ⟨rfl, G2.out⟩

end Go.Proofs.YteejjhdfebhagaaDoor.fnParseUnknown
