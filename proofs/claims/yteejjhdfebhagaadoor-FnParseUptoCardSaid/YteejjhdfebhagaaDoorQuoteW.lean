/- Contract of time.quote: it returns some text of at most sixteen bytes a byte and two more, and changes nothing that was there. -/
import Derived.Test.YteejjhdfebhagaaDoorQuoteH
import Derived.Deep.CutRange
import Derived.Deep.DeepCutAuto
import Derived.Deep.CutBlock
import Derived.Deep.LoopGhost
import Derived.Outline
import Derived.OwnWalk
import Derived.Laws.NewBlocks
import Derived.Laws.DeepStrings4
namespace Go.Proofs.YteejjhdfebhagaaDoor
open Go.ChangeShapes Go.WideShapes Go.ChangeAt Go.RowKit
set_option linter.unusedVariables false

theorem infoByte : (Tryd.prog.info? 5).map (fun i => (i.zero, i.size, i.bytes)) = some (some (.int .u8 0), 1, 1) := by kernel_rfl

theorem made_is (s : ByteArray) (hs : s.size ≤ 2000000) : ∃ C : Array Value, C.size = s.size + 2 ∧ C[0]? = some (.int .u8 0) ∧ ∀ w, (Instr.makeSlice 53 (.int .i64 1) (.int .i64 ((s.size : Int) + 2))).run Tryd.prog w = .ok (.slice (some ⟨w.heap.size, 0, none⟩) 1 (s.size + 2)) (w.alloc (.cells C 5)) := by
  obtain ⟨i0, hi, hz0, hz1, hz2⟩ := info_parts infoByte
  refine ⟨madeCells (Value.int .u8 0).cells ((s.size + 2) * i0.size), ?_, ?_, fun w => ?_⟩
  · rw [size_madeCells, hz1, Nat.mul_one]
  · rw [hz1, Nat.mul_one]
    unfold madeCells
    rw [Array.getElem?_map, Array.getElem?_eq_getElem (by simp), Array.getElem_range]
    rfl
  · have h := run_makeSlice (P := Tryd.prog) w 53 5 i0 (.int .u8 0) Tryd.underlying53 hi hz0 .i64 .i64 1 ((s.size : Int) + 2) (by omega) (by omega) (by rw [hz1]; omega) (by rw [hz2]; omega) (by omega)
    rw [h, show ((s.size : Int) + 2).toNat = s.size + 2 by omega]
    rfl

theorem qb_start (s : ByteArray) (w : World) (C : Array Value) (hC : C.size = s.size + 2) (hs : s.size ≤ 2000000) :
    QB w.heap.size w (w.heap.size + 1) s 0 (.slice (some ⟨w.heap.size, 0, none⟩) 1 (s.size + 2)) [34] ((w.alloc (.cells (C.setIfInBounds 0 (.int .u8 34)) 5)).iter s 0) := by
  have b1 := (Below.refl w.heap.size w).alloc (Nat.le_refl _) (.cells (C.setIfInBounds 0 (.int .u8 34)) 5)
  have hsz : (w.alloc (.cells (C.setIfInBounds 0 (.int .u8 34)) 5)).heap.size = w.heap.size + 1 := by simp
  have b2 := b1.alloc b1.size (.stringIter s 0)
  refine ⟨⟨rfl, .inr ⟨w.heap.size, s.size + 2, C.setIfInBounds 0 (.int .u8 34), (0, 0), rfl, Nat.le_refl _, ?_, Nat.zero_le _, (by show 1 ≤ s.size + 2; omega), by unfold maxLen; omega, by simp [hC], ?_⟩⟩, b2, b2.size, by omega, ?_⟩
  · show ((w.alloc _).alloc _).heap[w.heap.size]? = _
    rw [Below.heap_alloc _ _ _ (by rw [hsz]; omega)]
    show (w.heap.push _)[w.heap.size]? = _
    simp
  · have : (C.setIfInBounds 0 (.int .u8 34))[0]? = some (.int .u8 34) := by simp [hC]
    cases h : (C.setIfInBounds 0 (Value.int .u8 34)).toList with
    | nil => rw [← Array.getElem?_toList, h] at this; cases this
    | cons x l => rw [← Array.getElem?_toList, h] at this; simp at this; subst this; rfl
  · have := World.iter_heap (w.alloc (.cells (C.setIfInBounds 0 (.int .u8 34)) 5)) s 0
    rw [hsz] at this
    exact this

set_option maxRecDepth 100000 in
set_option maxHeartbeats 4000000 in
theorem quote_any : QuoteOk := by
  intro s w hs
  obtain ⟨i0, hi, hz0, hz1, hz2⟩ := info_parts infoByte
  obtain ⟨C, hC, hC0, hmk⟩ := made_is s hs
  have HC := Lib.hid hC
  clear hC
  go_enter Tryd.func39, Tryd.ntmps39
  go_wp2_with fail
  have hq0 := qb_start s w C HC.out hs
  clear hmk hC0
  go_loopg [3, 4, 5, 6, 7] s.size (fun gk x3 x4 x5 x6 x7 wr => ∃ (pos : Nat) (zs : List Int), s.size - pos ≤ gk ∧ pos ≤ s.size ∧ zs.length ≤ 1 + 16 * pos ∧ 1 ≤ zs.length ∧ QB w.heap.size w (w.heap.size + 1) s pos x3 zs wr)
  case atStart => exact ⟨0, [34], by omega, by omega, by simp, by simp, hq0⟩
  case round =>
    obtain ⟨pos, zs, hp1, hp2, hz3, hz4, hqb⟩ := hrel
    clear hq0
    by_cases hlt : pos < s.size
    · have hnx := fun ty => Lib.run_next_any_at (P := Tryd.prog) wr (w.heap.size + 1) s pos ty hqb.2.2.2.2 hlt
      have hwd := dec_facts s pos hlt
      obtain ⟨c, n, hcn⟩ : ∃ c n, Utf8.decode s pos = (c, n) := ⟨_, _, rfl⟩
      rw [hcn] at hnx hwd
      obtain ⟨hn1, hn2, hn3, hn4⟩ := hwd
      dsimp only at hnx hn1 hn2 hn3 hn4
      have hq1 := hqb.next (pos + n)
      obtain ⟨W1, hW1⟩ : ∃ W1, wr.iterAt (w.heap.size + 1) s (pos + n) = W1 := ⟨_, rfl⟩
      rw [hW1] at hnx hq1
      have hce : c ≤ 2147483647 := by have := decode_le s pos; rw [hcn] at this; exact this
      clear hcn hW1 hqb
      by_cases hA : 32 ≤ c ∧ c < 128
      · obtain ⟨hA1, hA2⟩ := hA
        have e1 : decide (128 ≤ (c : Int)) = false := by simp; omega
        have e2 : decide ((c : Int) < 32) = false := by simp; omega
        have hlen1 : zs.length + 2 ≤ 140737488355328 := by omega
        by_cases h34 : c = 34 ∨ c = 92
        · have e3 : ((c : Int) == 34 || (c : Int) == 92) = true := by rw [Bool.or_eq_true, beq_iff_eq, beq_iff_eq]; omega
          go_wp2_with (at_builtin; refine wpList_qb_byte rfl _ _ 53 rfl i0 Tryd.underlying53 hi hz0 hz1 hz2 _ _ _ _ _ _ _ rfl _ _ (by assumption) rfl (by first | omega | (simp only [List.length_append, List.length_cons, List.length_nil]; omega)) ?_; intro v1 w1 hb1)
          all_goals
            go_roundg (s.size - (pos + n))
            case measure => omega
            case rel => exact ⟨pos + n, _, by omega, by omega, by simp only [List.length_append, List.length_cons, List.length_nil]; omega, by simp only [List.length_append, List.length_cons, List.length_nil]; omega, hb1⟩
        · have e3 : ((c : Int) == 34) = false := by rw [beq_eq_false_iff_ne]; omega
          have e4 : ((c : Int) == 92) = false := by rw [beq_eq_false_iff_ne]; omega
          go_wp2_with (at_builtin; refine wpList_qb_byte rfl _ _ 53 rfl i0 Tryd.underlying53 hi hz0 hz1 hz2 _ _ _ _ _ _ _ rfl _ _ (by assumption) rfl (by first | omega | (simp only [List.length_append, List.length_cons, List.length_nil]; omega)) ?_; intro v1 w1 hb1)
          go_roundg (s.size - (pos + n))
          case measure => omega
          case rel => exact ⟨pos + n, _, by omega, by omega, by simp only [List.length_append, List.length_cons, List.length_nil]; omega, by simp only [List.length_append, List.length_cons, List.length_nil]; omega, hb1⟩
      · have e1 : (decide (128 ≤ (c : Int)) || decide ((c : Int) < 32)) = true := by rw [Bool.or_eq_true, decide_eq_true_iff, decide_eq_true_iff]; omega
        have HN4 := Lib.hid hn4
        clear hn4
        go_upto_region 6 with (fail)
        clear hnx e1
        go_cut [25] (fun x25 wx => x25 = .bool true ∧ W1 = wx)
        case first =>
          rcases Nat.lt_or_ge c 128 with h9 | h9
          · have e1 : decide (128 ≤ (c : Int)) = false := by simp; omega
            have e2 : decide ((c : Int) < 32) = true := by simp; omega
            go_wp2_with fail
            go_meet
            case rel => exact ⟨rfl, rfl⟩
          · have e1 : decide (128 ≤ (c : Int)) = true := by simp; omega
            go_wp2_with fail
            go_meet
            case rel => exact ⟨rfl, rfl⟩
        case rest =>
        obtain ⟨rfl, rfl⟩ := hcut
        go_upto_if 27 with (fail)
        go_cut [6] (fun x6 wx => ∃ wd : Nat, wd ≤ 4 ∧ pos + wd ≤ s.size ∧ x6 = .int .i64 (wd : Int) ∧ W1 = wx)
        case first =>
          by_cases hr : c = 65533
          · have e3 : ((c : Int) == 65533) = true := by rw [beq_iff_eq]; omega
            clear hr
            by_cases hp3 : pos + 2 < s.size
            · go_wp2_with fail
              all_goals
                go_meet
                case rel => first | exact ⟨3, by omega, by omega, rfl, rfl⟩ | exact ⟨1, by omega, by omega, rfl, rfl⟩
            · go_wp2_with fail
              go_meet
              case rel => exact ⟨1, by omega, by omega, rfl, rfl⟩
          · have e3 : ((c : Int) == 65533) = false := by rw [beq_eq_false_iff_ne]; omega
            obtain ⟨E, hE⟩ : ∃ E, Utf8.encode (c : Int) = E := ⟨_, rfl⟩
            have HE : Hid (E.size = n) := Lib.hid (by rw [← hE]; exact HN4.out hr)
            have hE4 : E.size ≤ 4 := by rw [HE.out]; exact hn3
            have kE : ∀ w, (convert 21 9 (.int .i32 (c : Int))).run Tryd.prog w = .ok (.string E) w := fun w => by
              rw [run_convert_int_string w 21 9 .i32 (c : Int) (by rw [Tryd.underlying21]; rfl) Tryd.underlying9, hE]
            clear hr hE
            go_wp2_with fail
            go_meet
            case rel => exact ⟨n, by omega, by omega, by rw [HE.out], rfl⟩
        case rest =>
          obtain ⟨wd, hw1, hw2, rfl, rfl⟩ := hcut
          go_wp2_with fail
          obtain ⟨gk0, hgk0⟩ : ∃ gk0, gk = gk0 := ⟨_, rfl⟩
          go_loopg [3, 7] wd (fun gk x3 x7 wr => ∃ (j : Nat) (ys : List Int), wd - j ≤ gk ∧ j ≤ wd ∧ ys.length ≤ zs.length + 4 * j ∧ 1 ≤ ys.length ∧ QB w.heap.size w (w.heap.size + 1) s (pos + n) x3 ys wr ∧ x7 = .int .i64 (j : Int))
          case atStart => exact ⟨0, zs, by omega, by omega, by omega, hz4, hq1, rfl⟩
          case round =>
            rename_i gkO _ _ _ _
            obtain ⟨j, ys, hj1, hj2, hy1, hy2, hqj, rfl⟩ := hrel
            by_cases hjl : j < wd
            · have hpj : pos + j < s.size := by omega
              obtain ⟨b, hbb⟩ : ∃ b, s[pos + j] = b := ⟨_, rfl⟩
              have hbl : b.toNat < 256 := b.toNat_lt
              go_wp2_with (at_builtin; first
                | (refine wpList_qb_byte rfl _ _ 53 rfl i0 Tryd.underlying53 hi hz0 hz1 hz2 _ _ _ _ _ _ _ rfl _ _ (by assumption) rfl (by simp only [List.length_append, List.length_cons, List.length_nil]; omega) ?_; intro v1 w1 hb1)
                | (refine wpList_qb_text rfl _ _ 53 9 rfl i0 Tryd.underlying53 Tryd.underlying9 hi hz0 hz1 hz2 _ _ _ _ _ _ _ rfl (by assumption) _ _ rfl (by omega) ?_; intro v1 w1 hb1))
              go_roundg (wd - (j + 1))
              case measure => omega
              case rel => exact ⟨j + 1, _, by omega, by omega, by simp only [List.length_append, List.length_cons, List.length_nil]; omega, by simp only [List.length_append, List.length_cons, List.length_nil]; omega, hb1, by go_num⟩
            · go_wp2_with fail
              go_roundg (s.size - (pos + n))
              case measure => omega
              case rel => exact ⟨pos + n, ys, by omega, by omega, by omega, hy2, hqj⟩
    · have hnx := fun ty => Lib.run_next_end_at (P := Tryd.prog) wr (w.heap.size + 1) s pos ty hqb.2.2.2.2 hlt
      go_wp2_with (at_builtin; refine wpList_qb_byte rfl _ _ 53 rfl i0 Tryd.underlying53 hi hz0 hz1 hz2 _ _ _ _ _ _ _ rfl _ _ (by assumption) rfl (by omega) ?_; intro v1 w1 hb1)
      obtain ⟨g, cap, rfl, hcells⟩ := hb1.cells (by simp)
      have hcv := run_convert_bytes_arg w1 53 5 Tryd.underlying53 Tryd.underlying5 g 0 _ cap _ rfl hcells 9 Tryd.underlying9
      rw [hcv]
      go_wp2_with fail
      go_ret
      exact ⟨hb1.2.1, _, by rw [strOfNums_size]; simp only [List.length_append, List.length_cons, List.length_nil]; omega, rfl⟩

end Go.Proofs.YteejjhdfebhagaaDoor
