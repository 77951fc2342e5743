/- Contracts of impl.Parse, laws.parses and impl.String in the form that the laws use: what the plain parse reads. Condition: the two listed variables hold what the program lays into them. -/
import Derived.Test.YteejjhdfebhagaaDoorParseW
import Derived.Test.YteejjhdfebhagaaDoorQuoteW
import Derived.Test.YteejjhdfebhagaaDoorVf
import Derived.Test.YteejjhdfebhagaaDoorStrIs
import Derived.Test.YteejjhdfebhagaaDoorBel
namespace Go.Proofs.YteejjhdfebhagaaDoor
open Go.ChangeShapes Go.WideShapes Go.ChangeAt Go.RowKit
set_option linter.unusedVariables false

theorem Laid.bel {w w' : World} (h : Laid w) (hb : Bel w w') : Laid w' := h.below hb

theorem strB_is {d : Int} {l : List UInt8} (w : World) (h1 : -9223372036854775808 ≤ d) (h2 : d ≤ 9223372036854775807) (hl : str d = l) :
    Calls Tryd.prog 18 #[.int .i64 d] w fun e w' => e = .returned (.string ⟨l.toArray⟩) ∧ Bel w w' :=
  (string_is w h1 h2 hl).mono fun e w' ⟨he, hw⟩ => ⟨he, by subst hw; exact (Bel.refl _).alloc _ _⟩

/-- what a text is read as: the duration d, or none -/
def Reads (l : List UInt8) (d : Int) (ok : Bool) : Prop := (ok = true ∧ parse vf l = some d) ∨ (ok = false ∧ d = 0 ∧ parse vf l = none)

def IsParse (l : List UInt8) (w : World) (e : Ending) (w' : World) : Prop :=
  Bel w w' ∧ ∃ d ok, Reads l d ok ∧ e = .returned (.tuple #[.int .i64 d, .bool ok])

theorem implParse (s : ByteArray) (w : World) (hs : s.size ≤ 2000000) (hL : Laid w) :
    Calls Tryd.prog 19 #[.string s] w (IsParse s.data.toList w) := by
  have hP := parse_any vf s w hs hL quote_any vf_reck
  clear hL
  go_enter Tryd.func19, Tryd.ntmps19
  go_wp2_with fail
  refine hP.mono ?_
  clear hP
  rintro e w1 ⟨hb, ⟨d, hp, rfl⟩ | ⟨hp, t, v, rfl⟩⟩
  · have HB := Lib.hid hb
    have HP := Lib.hid hp
    clear hb hp
    go_wp2
    go_ret2
    exact ⟨HB.out, d, true, Or.inl ⟨rfl, HP.out⟩, rfl⟩
  · have HB := Lib.hid hb
    have HP := Lib.hid hp
    clear hb hp
    go_wp2
    go_ret2
    exact ⟨HB.out, 0, false, Or.inr ⟨rfl, rfl, HP.out⟩, rfl⟩

theorem reads_same {l : List UInt8} {d d' : Int} {ok ok' : Bool} (h : Reads l d ok) (h' : Reads l d' ok') : d = d' ∧ ok = ok' := by
  rcases h with ⟨rfl, h⟩ | ⟨rfl, rfl, h⟩ <;> rcases h' with ⟨rfl, h'⟩ | ⟨rfl, rfl, h'⟩
  · rw [h] at h'; cases h'; exact ⟨rfl, rfl⟩
  · rw [h] at h'; cases h'
  · rw [h] at h'; cases h'
  · exact ⟨rfl, rfl⟩

/-- parses says yes where the text is read so -/
theorem parses_yes (s : ByteArray) (d : Int) (ok : Bool) (w : World) (hs : s.size ≤ 2000000) (hL : Laid w) (h : Reads s.data.toList d ok) :
    Calls Tryd.prog 17 #[.string s, .int .i64 d, .bool ok] w fun e w' => e = .returned (.bool true) ∧ Bel w w' := by
  have hP := implParse s w hs hL
  have H := Lib.hid h
  clear hL h
  go_enter Tryd.func17, Tryd.ntmps17
  go_wp2_with fail
  refine hP.mono ?_
  clear hP
  rintro e w1 ⟨hb, d', ok', hr, rfl⟩
  obtain ⟨rfl, rfl⟩ := reads_same H.out hr
  have HB := Lib.hid hb
  clear hb hr
  go_wp2
  go_ret
  exact ⟨ret_bool (by first | rfl | (simp; done)), HB.out⟩

/-- what impl.Parse returns where it is known -/
theorem parse_is (s : ByteArray) (d : Int) (ok : Bool) (w : World) (hs : s.size ≤ 2000000) (hL : Laid w) (h : Reads s.data.toList d ok) :
    Calls Tryd.prog 19 #[.string s] w fun e w' => e = .returned (.tuple #[.int .i64 d, .bool ok]) ∧ Bel w w' :=
  (implParse s w hs hL).mono fun e w' ⟨hb, d', ok', hr, he⟩ => by
    obtain ⟨rfl, rfl⟩ := reads_same h hr
    exact ⟨he, hb⟩

end Go.Proofs.YteejjhdfebhagaaDoor
