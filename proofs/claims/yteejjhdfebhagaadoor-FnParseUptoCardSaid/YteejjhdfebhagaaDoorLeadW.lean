/- Contracts of time.leadingInt[string] and time.leadingFraction: what the plain lint and lfrac of XParsePlain read. Condition: the variable errLeadingInt holds some interface value. -/
import Derived.Test.YteejjhdfebhagaaDoorRows
import Derived.WalkKit
import Derived.ProofKit
import Derived.OpenShut
import Derived.Lib.Hide
import Derived.Deep.QuietTactic
import Derived.BigQuiet
import Derived.Test.YteejjhdfebhagaaDoorParsePlain
import Derived.Test.YteejjhdfebhagaaDoorNumPlain
namespace Go.Proofs.YteejjhdfebhagaaDoor
open Go.ChangeShapes Go.WideShapes Go.ChangeAt Go.RowKit
set_option linter.unusedVariables false

/-- a list of bytes as a string -/
def bs (l : List UInt8) : ByteArray := ⟨l.toArray⟩
theorem bs_list (l : List UInt8) : (bs l).data.toList = l := rfl
theorem bs_of (s : ByteArray) : bs s.data.toList = s := by cases s; rfl
theorem bs_size (l : List UInt8) : (bs l).size = l.length := rfl
theorem list_len (s : ByteArray) : s.data.toList.length = s.size := Array.length_toList
theorem bs_drop (s : ByteArray) (i : Nat) : s.extract i s.size = bs (s.data.toList.drop i) := by
  apply ByteArray.ext
  apply Array.ext'
  rw [bs_list, ByteArray.data_extract, Array.toList_extract, List.extract_eq_take_drop]
  rw [← list_len, ← List.length_drop, List.take_length]
theorem bs_take (s : ByteArray) (i : Nat) : s.extract 0 i = bs (s.data.toList.take i) := by
  apply ByteArray.ext
  apply Array.ext'
  rw [bs_list, ByteArray.data_extract, Array.toList_extract, List.extract_eq_take_drop]
  simp
theorem drop_at (s : ByteArray) {i : Nat} (h : i < s.size) : s.data.toList.drop i = s[i] :: s.data.toList.drop (i + 1) := by
  rw [List.drop_eq_getElem_cons (by rw [list_len]; exact h)]
  rfl

theorem lint_go {c : UInt8} {s : List UInt8} {x : Nat} (hd : 48 ≤ c.toNat ∧ c.toNat ≤ 57) (h1 : x ≤ 922337203685477580) (h2 : x * 10 + (c.toNat - 48) ≤ 9223372036854775808) : lint (c :: s) x = lint s (x * 10 + (c.toNat - 48)) := by
  rw [lint, if_pos (by unfold isDig; simp; exact hd), if_neg (by unfold two63; omega), if_neg (by unfold two63; omega)]
theorem lint_big {c : UInt8} {s : List UInt8} {x : Nat} (hd : 48 ≤ c.toNat ∧ c.toNat ≤ 57) (h1 : 922337203685477580 < x ∨ 9223372036854775808 < x * 10 + (c.toNat - 48)) : lint (c :: s) x = none := by
  rw [lint, if_pos (by unfold isDig; simp; exact hd)]
  split
  · rfl
  · rw [if_pos (by unfold two63 at *; omega)]
theorem lint_no {c : UInt8} {s : List UInt8} {x : Nat} (hd : ¬ (48 ≤ c.toNat ∧ c.toNat ≤ 57)) : lint (c :: s) x = some (x, c :: s) := by
  rw [lint, if_neg (by unfold isDig; simp; omega)]

/-- what leadingInt returns -/
def LintPost (s : ByteArray) (w : World) (v : Value) (e : Ending) (w' : World) : Prop :=
  (∃ n, w' = w.drewN n) ∧ ((∃ (x : Int) (r : List UInt8), 0 ≤ x ∧ x ≤ 9223372036854775808 ∧ lint s.data.toList 0 = some (x.toNat, r) ∧ e = .returned (.tuple #[.int .u64 x, .string (bs r), .nilIface])) ∨ (lint s.data.toList 0 = none ∧ e = .returned (.tuple #[.int .u64 0, .string ⟨#[]⟩, v])))

set_option maxHeartbeats 1000000 in
theorem lint_any (s : ByteArray) (w : World) (v : Value) (hs : s.size ≤ 140737488351232) (hc : w.cell? ⟨1, 0, none⟩ = some v) :
    Calls Tryd.prog 37 #[.string s] w (LintPost s w v) := by
  go_enter Tryd.func37, Tryd.ntmps37
  go_wp2
  go_loop [2, 3, 5, 6] (fun x2 x3 x5 x6 => ∃ (i : Nat) (x : Int), i ≤ s.size ∧ 0 ≤ x ∧ x ≤ 9223372036854775808 ∧ lint s.data.toList 0 = lint (s.data.toList.drop i) x.toNat ∧ x2 = .int .u64 x ∧ x3 = .string ⟨#[]⟩ ∧ x5 = .int .i64 (i : Int)) (fun _ _ x5 _ => s.size - (intOf x5).toNat)
  case atStart => exact ⟨0, 0, Nat.zero_le _, by omega, by omega, by simp, rfl, rfl, rfl⟩
  case round =>
    obtain ⟨i, x, hi, h0, h1, hl, rfl, rfl, rfl⟩ := hrel
    have HL := Lib.hid hl
    clear hl
    by_cases hlt : i < s.size
    · have hat := drop_at s hlt
      obtain ⟨c, hcc⟩ : ∃ c, s[i] = c := ⟨_, rfl⟩
      have HA : Hid (s.data.toList.drop i = c :: s.data.toList.drop (i + 1)) := Lib.hid (by rw [hat, hcc])
      clear hat
      have hcl : c.toNat < 256 := c.toNat_lt
      by_cases hd : 48 ≤ c.toNat ∧ c.toNat ≤ 57
      · obtain ⟨d1, d2⟩ := hd
        by_cases hx : x ≤ 922337203685477580
        · by_cases hy : x * 10 + (c.toNat : Int) - 48 ≤ 9223372036854775808
          · go_wp2
            go_round
            case rel => exact ⟨i + 1, x * 10 + (c.toNat : Int) - 48, by omega, by omega, by omega, by rw [HL.out, HA.out, lint_go ⟨d1, d2⟩ (by omega) (by omega)]; congr 1; omega, by go_num, rfl, by go_num⟩
            case measure => simp [intOf]; omega
          · go_wp2
            go_quiet (fail)
            go_wp2
            go_ret3
            exact ⟨⟨_, rfl⟩, Or.inr ⟨by rw [HL.out, HA.out]; exact lint_big ⟨d1, d2⟩ (by omega), rfl⟩⟩
        · go_wp2
          go_quiet (fail)
          go_wp2
          go_ret3
          exact ⟨⟨_, rfl⟩, Or.inr ⟨by rw [HL.out, HA.out]; exact lint_big ⟨d1, d2⟩ (by omega), rfl⟩⟩
      · rcases Nat.lt_or_ge c.toNat 48 with hd' | hd'
        · go_wp2
          go_quiet (fail)
          go_wp2
          go_ret3
          exact ⟨⟨_, rfl⟩, Or.inl ⟨x, c :: s.data.toList.drop (i + 1), h0, h1, by rw [HL.out, HA.out]; exact lint_no hd, by rw [← HA.out, ← bs_drop]; rfl⟩⟩
        · have hd2 : 57 < c.toNat := by omega
          go_wp2
          go_quiet (fail)
          go_wp2
          go_ret3
          exact ⟨⟨_, rfl⟩, Or.inl ⟨x, c :: s.data.toList.drop (i + 1), h0, h1, by rw [HL.out, HA.out]; exact lint_no hd, by rw [← HA.out, ← bs_drop]; rfl⟩⟩
    · have he : i = s.size := by omega
      have HE := Lib.hid he
      clear he
      go_wp2
      go_quiet (fail)
      go_wp2
      go_ret3
      exact ⟨⟨_, rfl⟩, Or.inl ⟨x, s.data.toList.drop i, h0, h1, by rw [HL.out, HE.out, ← list_len, List.drop_length]; rfl, by rw [← bs_drop]; rfl⟩⟩

end Go.Proofs.YteejjhdfebhagaaDoor
