/- The law FnStringOfParse returns true for every input of bulk at most 1048576, where the listed package variables hold what the program lays into them. What ParseDuration has read from a text is written so that it is read again as the same. -/
import Derived.Test.YteejjhdfebhagaaDoorRows
import Derived.WalkKit
import Derived.ProofKit
import Derived.OpenShut
import Derived.Test.YteejjhdfebhagaaDoorLawsW
import Derived.Test.YteejjhdfebhagaaDoorAddsStr
namespace Go.Proofs.YteejjhdfebhagaaDoor.fnStringOfParse
open Go.ChangeShapes Go.WideShapes Go.ChangeAt Go.RowKit
set_option linter.unusedVariables false

theorem tally_le {v f k b d x : Nat} (h : tally vf v f k b d = some x) : x ≤ two63 := by
  unfold tally at h
  split at h
  · cases h
  · split at h
    · split at h
      · cases h
      · split at h
        · cases h
        · cases h; omega
    · split at h
      · cases h
      · cases h; omega
theorem step_le {s : List UInt8} {d : Nat} {x : Nat × List UInt8} (h : step vf s d = some x) : x.1 ≤ two63 := by
  unfold step at h
  split at h
  · cases h
  · split at h
    · cases h
    · split at h
      · cases h
      · split at h
        · cases h
        · unfold unitPart at h
          split at h
          · cases h
          · split at h
            · cases h
            · rw [Option.map_eq_some_iff] at h
              obtain ⟨y, hy, rfl⟩ := h
              exact tally_le hy
theorem ploop_le : ∀ (n : Nat) (s : List UInt8) (d x : Nat), d ≤ two63 → ploop vf n s d = some x → x ≤ two63 := by
  intro n
  induction n with
  | zero =>
    intro s d x hd h
    rw [ploop] at h
    split at h
    · cases h; exact hd
    · cases h
  | succ n ih =>
    intro s d x hd h
    rw [ploop] at h
    split at h
    · cases h; exact hd
    · rw [Option.bind_eq_some_iff] at h
      obtain ⟨y, hy, h⟩ := h
      exact ih _ _ _ (step_le hy) h
theorem parse_range {l : List UInt8} {d : Int} (h : parse vf l = some d) : -9223372036854775808 ≤ d ∧ d ≤ 9223372036854775807 := by
  have hT : two63 = 9223372036854775808 := rfl
  unfold parse at h
  dsimp only at h
  split at h
  · cases h; omega
  · split at h
    · cases h
    · split at h
      · cases h
      · rename_i x hx
        have := ploop_le _ _ _ _ (Nat.zero_le _) hx
        split at h
        · cases h; omega
        · split at h
          · cases h
          · cases h; omega

set_option maxHeartbeats 4000000 in
theorem walk (s0 : ByteArray) (z0 : s0.size ≤ 1048576) (w : World) (hL : laidMetH Tryd.prog Rows.fnStringOfParseRow.laid w) :
    Calls Tryd.prog 4 #[.string s0] w fun e w' => e = .returned (.bool true) ∧ Bel w w' := by
  have HL := Lib.hid (of_laid hL)
  clear hL
  have hP := implParse s0 w (by omega) HL.out
  go_enter Tryd.func4, Tryd.ntmps4
  go_wp2_with fail
  refine hP.mono ?_
  clear hP
  rintro e w1 ⟨g1, d, ok, hr, rfl⟩
  have G1 := Lib.hid g1
  clear g1
  rcases hr with ⟨rfl, hr⟩ | ⟨rfl, rfl, hr⟩
  · obtain ⟨b1, b2⟩ := parse_range hr
    clear hr
    obtain ⟨l, hl⟩ : ∃ l, str d = l := ⟨_, rfl⟩
    have hn := (str_len b1 b2).2
    rw [hl] at hn
    have HT := Lib.hid hl
    clear hl
    go_wp2_with fail
    refine (strB_is _ b1 b2 HT.out).mono ?_
    rintro e v2 ⟨rfl, g2⟩
    have G2 := Lib.hid (G1.out.trans g2)
    clear g2
    go_wp2_with fail
    refine (parses_yes _ _ _ _ (by show l.length ≤ _; omega) (HL.out.bel G2.out) (Or.inl ⟨rfl, by show parse vf l = _; rw [← HT.out]; exact parse_str vf_exact b1 b2⟩)).mono ?_
    rintro e v3 ⟨rfl, g3⟩
    have G3 := Lib.hid (G2.out.trans g3)
    clear g3
    go_wp2
    go_ret
    exact ⟨rfl, G3.out⟩
  · clear hr
    go_wp2_with fail
    refine (parses_yes _ _ _ _ (by show 3 ≤ _; omega) (HL.out.bel G1.out) (Or.inl ⟨rfl, by
      have h := num_plain vf (A := [49]) (by intro c hc; simp at hc; subst hc; rfl) (by decide) (u := [110, 115]) (by decide) (units_of (by decide)) (b := 1) (by decide) (by decide)
      exact h.trans (if_pos (by decide))⟩)).mono ?_
    rintro e v3 ⟨rfl, g3⟩
    have G3 := Lib.hid (G1.out.trans g3)
    clear g3
    go_wp2
    go_ret
    exact ⟨rfl, G3.out⟩

end Go.Proofs.YteejjhdfebhagaaDoor.fnStringOfParse
