/- The names of months and days as the package's variables hold them; (time.Month).String and (time.Weekday).String through impl: the name in range, some text that is not empty out of range. Condition: the variable holds its table. -/
import Derived.Test.YtabnabpiiknelaaDoorRows
import Derived.WalkKit
import Derived.ProofKit
import Derived.OpenShut
import Derived.LaidMore
import Derived.Stop.Joined
import Derived.Test.YtabnabpiiknelaaDoorTailW
import Derived.Test.YtabnabpiiknelaaDoorNumPlain
namespace Go.Proofs.YtabnabpiiknelaaDoor
open Go.ChangeShapes Go.WideShapes Go.ChangeAt Go.RowKit
set_option linter.unusedVariables false

def months : List (List UInt8) := [[74, 97, 110, 117, 97, 114, 121], [70, 101, 98, 114, 117, 97, 114, 121], [77, 97, 114, 99, 104], [65, 112, 114, 105, 108], [77, 97, 121], [74, 117, 110, 101], [74, 117, 108, 121], [65, 117, 103, 117, 115, 116], [83, 101, 112, 116, 101, 109, 98, 101, 114], [79, 99, 116, 111, 98, 101, 114], [78, 111, 118, 101, 109, 98, 101, 114], [68, 101, 99, 101, 109, 98, 101, 114]]
def days : List (List UInt8) := [[83, 117, 110, 100, 97, 121], [77, 111, 110, 100, 97, 121], [84, 117, 101, 115, 100, 97, 121], [87, 101, 100, 110, 101, 115, 100, 97, 121], [84, 104, 117, 114, 115, 100, 97, 121], [70, 114, 105, 100, 97, 121], [83, 97, 116, 117, 114, 100, 97, 121]]

/-- variable g is a slice of these strings -/
def Tab (W : World) (g : Nat) (names : List (List UInt8)) : Prop := ∃ b off cap, W.cell? ⟨g, 0, none⟩ = some (.slice (some ⟨b, off, none⟩) names.length cap) ∧ ∀ i s, names[i]? = some s → W.cell? ⟨b, off + i, none⟩ = some (.string ⟨s.toArray⟩)

theorem cell_lt {W : World} {b o : Nat} {v : Value} (h : W.cell? ⟨b, o, none⟩ = some v) : b < W.heap.size := by
  rcases Nat.lt_or_ge b W.heap.size with h1 | h1
  · exact h1
  · unfold World.cell? at h
    rw [Array.getElem?_eq_none h1] at h
    cases h

theorem cell_bw {W : World} {b o : Nat} {v : Value} (E : TypeId) (n : Nat) (l : List UInt8) (h : W.cell? ⟨b, o, none⟩ = some v) : (bw E n W l).cell? ⟨b, o, none⟩ = some v := by
  unfold bw
  rw [World.cell?_alloc_past _ _ _ (cell_lt h)]
  exact h

theorem tab_bw {W : World} {g : Nat} {names : List (List UInt8)} (E : TypeId) (n : Nat) (l : List UInt8) (h : Tab W g names) : Tab (bw E n W l) g names := by
  obtain ⟨b, off, cap, h1, h2⟩ := h
  exact ⟨b, off, cap, cell_bw E n l h1, fun i s hs => cell_bw E n l (h2 i s hs)⟩

theorem cellsStr : Tryd.prog.cellsOf 9 = 1 := by kernel_rfl

/-- what a listed variable's reading gives -/
theorem tab_of_trod {H : Type} {enc : TypeId × Value → H} {W : World} {g : Nat} {nm : String} {cs : Array Value} {base fuel : Nat} {sp : Nat → Bool} {held : Bool} {names : List (List UInt8)} {p : List MemPlace}
    (hg : Tryd.prog.globalNamed nm = some g) (hv : W.var? Tryd.prog nm = some cs)
    (hd : DataW.trod enc Tryd.prog W base sp held fuel 27 cs.toList = some (.slice (names.map fun s => .lit (.string s)) [], p)) (h0 : 0 < names.length) : Tab W g names := by
  obtain ⟨a, cap, hcs, _, hel⟩ := open_row Tryd.underlying27 cellsStr hd
  rw [List.length_map] at hcs
  have key : ∀ i s, names[i]? = some s → W.cell? (a.add i) = some (.string ⟨s.toArray⟩) := by
    intro i s hs
    obtain ⟨v, n, q, hc, hr⟩ := hel i (.lit (.string s)) (by rw [List.getElem?_map, hs]; rfl)
    obtain ⟨t, e1, e2, _⟩ := DataW.trod_string Tryd.underlying9 hr
    simp only [Prod.mk.injEq, DataW.lit.injEq, Lit.string.injEq] at e2
    simp only [List.cons.injEq, and_true] at e1
    rw [hc, e1]
    congr 2
    apply ByteArray.ext
    rw [e2.1]
  obtain ⟨b, off, spot⟩ := a
  have hspot : spot = none := by
    have := key 0 (names[0]'h0) (List.getElem?_eq_getElem h0)
    simpa [Addr.add] using World.cell?_spot this
  subst hspot
  have hadd : ∀ i, (⟨b, off, none⟩ : Addr).add i = ⟨b, off + i, none⟩ := by intro i; unfold Addr.add; split <;> simp_all
  refine ⟨b, off, cap, ?_, fun i s hs => by have := key i s hs; rwa [hadd] at this⟩
  have := World.var?_cell hg hv 0
  rw [Array.eq_one_of_toList hcs] at this
  simpa using this

theorem u64_of {m : Int} (h1 : -9223372036854775808 ≤ m) (h2 : m ≤ 9223372036854775807) : 0 ≤ IntKind.u64.wrap m ∧ IntKind.u64.wrap m < 18446744073709551616 := by
  rw [IntKind.wrap_u64]; omega

theorem month_good {m : Int} {s : List UInt8} (w : World) (h1 : 1 ≤ m) (h2 : m ≤ 12) (h : Tab w 0 months) (hs : months[m.toNat - 1]? = some s) :
    Calls Tryd.prog 6 #[.int .i64 m] w fun e w' => e = .returned (.string ⟨s.toArray⟩) ∧ w = w' := by
  obtain ⟨b, off, cap, c1, c2⟩ := h
  have c3 := c2 _ s hs
  have hl : months.length = 12 := rfl
  rw [hl] at c1
  clear c2 hs hl
  go_enter Tryd.func6, Tryd.ntmps6
  go_wp2
  go_ret
  exact ⟨rfl, rfl⟩

theorem month_bad {m : Int} (w : World) (b1 : -9223372036854775808 ≤ m) (b2 : m ≤ 9223372036854775807) (h : m < 1 ∨ 12 < m) :
    ∃ l, Calls Tryd.prog 6 #[.int .i64 m] w fun e w' => e = .returned (.string ⟨([37, 33, 77, 111, 110, 116, 104, 40] ++ (l ++ [41])).toArray⟩) ∧ w' = bw 5 20 w l := by
  obtain ⟨u1, u2⟩ := u64_of b1 b2
  obtain ⟨u, hu⟩ : ∃ u, IntKind.u64.wrap m = u := ⟨_, rfl⟩
  rw [hu] at u1 u2
  have hdl := dec_len (k := 20) (n := u.toNat) (by omega) (Nat.lt_trans (show u.toNat < 18446744073709551616 by omega) (by decide))
  have hdp := dec_pos_len u.toNat
  obtain ⟨l, hl⟩ : ∃ l, dec u.toNat = l := ⟨_, rfl⟩
  obtain ⟨k, hk⟩ : ∃ k, 20 - l.length = k := ⟨_, rfl⟩
  have hf := fmtInt_any 5 20 20 20 u.toNat [] w rfl (by omega) (by omega) (by omega)
  rw [Int.toNat_of_nonneg u1, hl, hk, List.append_nil] at hf
  rw [hl] at hdl hdp
  refine ⟨l, ?_⟩
  have hcv := tail_string (E := 5) w 20 k (20 - k) l (by omega)
  have e20 : 20 - k = l.length := by omega
  have hk20 : (k : Int) ≤ 20 := by omega
  have hne : ¬ 20 = k := by omega
  have hne2 : ¬ k = 20 := by omega
  have hmk : ∀ w, (Instr.makeSlice 29 (.int .i64 20) (.int .i64 20)).run Tryd.prog w = .ok (.slice (some ⟨w.heap.size, 0, none⟩) 20 20) (bw 5 20 w []) := fun _ => by kernel_rfl
  have HF := Lib.hid hf
  clear hf hk hl hdp
  rw [e20] at hcv
  rcases h with h | h
  all_goals
    go_enter Tryd.func6, Tryd.ntmps6
    go_wp2_with (first | (go_at_call 13; refine (HF.out).mono ?_; rintro e w' ⟨rfl, rfl⟩) | go_in)
    go_wp2
    go_ret
    exact ⟨ret_str (by apply ByteArray.ext; simp [ByteArray.data_append]), rfl⟩

theorem day_good {m : Int} {s : List UInt8} (w : World) (h1 : 0 ≤ m) (h2 : m ≤ 6) (h : Tab w 1 days) (hs : days[m.toNat]? = some s) :
    Calls Tryd.prog 8 #[.int .i64 m] w fun e w' => e = .returned (.string ⟨s.toArray⟩) ∧ w = w' := by
  obtain ⟨b, off, cap, c1, c2⟩ := h
  have c3 := c2 _ s hs
  have hl : days.length = 7 := rfl
  rw [hl] at c1
  clear c2 hs hl
  go_enter Tryd.func8, Tryd.ntmps8
  go_wp2
  go_ret
  exact ⟨rfl, rfl⟩

theorem day_bad {m : Int} (w : World) (b1 : -9223372036854775808 ≤ m) (b2 : m ≤ 9223372036854775807) (h : m < 0 ∨ 6 < m) :
    ∃ l, Calls Tryd.prog 8 #[.int .i64 m] w fun e w' => e = .returned (.string ⟨([37, 33, 87, 101, 101, 107, 100, 97, 121, 40] ++ (l ++ [41])).toArray⟩) ∧ w' = bw 5 20 w l := by
  obtain ⟨u1, u2⟩ := u64_of b1 b2
  obtain ⟨u, hu⟩ : ∃ u, IntKind.u64.wrap m = u := ⟨_, rfl⟩
  rw [hu] at u1 u2
  have hdl := dec_len (k := 20) (n := u.toNat) (by omega) (Nat.lt_trans (show u.toNat < 18446744073709551616 by omega) (by decide))
  have hdp := dec_pos_len u.toNat
  obtain ⟨l, hl⟩ : ∃ l, dec u.toNat = l := ⟨_, rfl⟩
  obtain ⟨k, hk⟩ : ∃ k, 20 - l.length = k := ⟨_, rfl⟩
  have hf := fmtInt_any 5 20 20 20 u.toNat [] w rfl (by omega) (by omega) (by omega)
  rw [Int.toNat_of_nonneg u1, hl, hk, List.append_nil] at hf
  rw [hl] at hdl hdp
  refine ⟨l, ?_⟩
  have hcv := tail_string (E := 5) w 20 k (20 - k) l (by omega)
  have e20 : 20 - k = l.length := by omega
  have hk20 : (k : Int) ≤ 20 := by omega
  have hne : ¬ 20 = k := by omega
  have hne2 : ¬ k = 20 := by omega
  have hmk : ∀ w, (Instr.makeSlice 29 (.int .i64 20) (.int .i64 20)).run Tryd.prog w = .ok (.slice (some ⟨w.heap.size, 0, none⟩) 20 20) (bw 5 20 w []) := fun _ => by kernel_rfl
  have HF := Lib.hid hf
  clear hf hk hl hdp
  rw [e20] at hcv
  rcases h with h | h
  all_goals
    go_enter Tryd.func8, Tryd.ntmps8
    go_wp2_with (first | (go_at_call 13; refine (HF.out).mono ?_; rintro e w' ⟨rfl, rfl⟩) | go_in)
    go_wp2
    go_ret
    exact ⟨ret_str (by apply ByteArray.ext; simp [ByteArray.data_append]), rfl⟩

end Go.Proofs.YtabnabpiiknelaaDoor
