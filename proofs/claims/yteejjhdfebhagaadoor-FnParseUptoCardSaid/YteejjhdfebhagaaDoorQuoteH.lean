/- For the walk of time.quote: a buffer of bytes that the call owns beside a string's iterator, carried from append to append; what a rune read from a text says of its width. -/
import Derived.Test.YteejjhdfebhagaaDoorParseHelp
import Derived.Lib.FrozenHead2
import Derived.Lib.Quote
import Derived.Lib.OthersKept
import Derived.Laws.RangeAny
import Derived.Laws.Runes
import Derived.Laws.BytesArg
import Derived.Laws.MakeOwn
namespace Go.Proofs.YteejjhdfebhagaaDoor
open Go.ChangeShapes Go.WideShapes Go.ChangeAt Go.RowKit
set_option linter.unusedVariables false

theorem enc_size (c : Nat) (hv : Utf8.valid (c : Int) = true) : (Utf8.encode (c : Int)).size = if c < 128 then 1 else if c < 2048 then 2 else if c < 65536 then 3 else 4 := by
  unfold Utf8.encode
  simp only [hv, if_true, Int.toNat_natCast]
  split
  · rfl
  · split
    · rfl
    · split
      · rfl
      · rfl
theorem valid_lo {c : Nat} (h : c < 55296) : Utf8.valid (c : Int) = true := by
  unfold Utf8.valid; simp; omega

/-- the width of a rune that is read, and of its text -/
def WidthOk (s : ByteArray) (pos : Nat) (x : Nat × Nat) : Prop :=
  1 ≤ x.2 ∧ pos + x.2 ≤ s.size ∧ x.2 ≤ 4 ∧ (x.1 ≠ 65533 → (Utf8.encode (x.1 : Int)).size = x.2)
theorem width_err (s : ByteArray) (pos : Nat) (h : pos < s.size) : WidthOk s pos (Utf8.runeError, 1) :=
  ⟨Nat.le_refl _, h, by decide, fun e => absurd rfl e⟩
theorem width_one (s : ByteArray) (pos c : Nat) (h : pos < s.size) (hc : c < 128) : WidthOk s pos (c, 1) :=
  ⟨Nat.le_refl _, h, (by show (1 : Nat) ≤ 4; decide), fun _ => by rw [enc_size c (valid_lo (by omega)), if_pos hc]⟩
theorem dec_facts (s : ByteArray) (pos : Nat) (h : pos < s.size) : WidthOk s pos (Utf8.decode s pos) := by
  have hb : ∀ k, (s.get! (pos + k)).toNat < 256 := fun k => (s.get! (pos + k)).toNat_lt
  have h0 := hb 0; have h1 := hb 1; have h2 := hb 2; have h3 := hb 3
  clear hb
  unfold Utf8.decode
  dsimp only
  split
  · rename_i hc; exact width_one s pos _ h hc
  · split
    · rename_i hc
      simp only [Bool.and_eq_true, decide_eq_true_iff, beq_iff_eq] at hc
      split
      · rename_i hd
        refine ⟨(by show (1 : Nat) ≤ 2; decide), (by show pos + 2 ≤ s.size; omega), (by show (2 : Nat) ≤ 4; decide), fun _ => ?_⟩
        rw [enc_size _ (valid_lo (by omega)), if_neg (by omega), if_pos (by omega)]
      · exact width_err s pos h
    · split
      · rename_i hc
        simp only [Bool.and_eq_true, decide_eq_true_iff, beq_iff_eq] at hc
        split
        · rename_i hd
          simp only [Bool.and_eq_true, decide_eq_true_iff] at hd
          refine ⟨(by show (1 : Nat) ≤ 3; decide), (by show pos + 3 ≤ s.size; omega), (by show (3 : Nat) ≤ 4; decide), fun _ => ?_⟩
          rw [enc_size _ hd.2, if_neg (by omega), if_neg (by omega), if_pos (by omega)]
        · exact width_err s pos h
      · split
        · rename_i hc
          simp only [Bool.and_eq_true, decide_eq_true_iff, beq_iff_eq] at hc
          split
          · rename_i hd
            simp only [Bool.and_eq_true, decide_eq_true_iff] at hd
            refine ⟨(by show (1 : Nat) ≤ 4; decide), (by show pos + 4 ≤ s.size; omega), (by show (4 : Nat) ≤ 4; decide), fun _ => ?_⟩
            rw [enc_size _ hd.2, if_neg (by omega), if_neg (by omega), if_neg (by omega)]
          · exact width_err s pos h
        · exact width_err s pos h

/-- a buffer of bytes that the call owns, beside a string's iterator -/
def QB (B : Nat) (W0 : World) (IT : Nat) (s : ByteArray) (pos : Nat) (v : Value) (zs : List Int) (w : World) : Prop :=
  w.ownsRowF B 5 1 v zs.length (Lib.intCells zs) ∧ Below B W0 w ∧ B ≤ w.heap.size ∧ B ≤ IT ∧ w.heap[IT]? = some (.stringIter s pos)

theorem QB.it_lt {B : Nat} {W0 : World} {IT : Nat} {s : ByteArray} {pos : Nat} {v : Value} {zs : List Int} {w : World} (h : QB B W0 IT s pos v zs w) : IT < w.heap.size := by
  rcases Nat.lt_or_ge IT w.heap.size with h1 | h1
  · exact h1
  · have := h.2.2.2.2; rw [Array.getElem?_eq_none h1] at this; cases this
theorem QB.ne {B : Nat} {W0 : World} {IT : Nat} {s : ByteArray} {pos : Nat} {v : Value} {zs : List Int} {w : World} (h : QB B W0 IT s pos v zs w) : some IT ≠ v.ownBlock := by
  rcases h.1.2 with ⟨rfl, _⟩ | ⟨g, cap, cur, fz, rfl, hb, hg, rest⟩
  · simp [Value.ownBlock]
  · intro e
    simp only [Value.ownBlock, Option.some.injEq] at e
    subst e
    have := h.2.2.2.2
    rw [hg] at this
    cases this
theorem QB.grown {B : Nat} {W0 : World} {IT : Nat} {s : ByteArray} {pos : Nat} {v v' : Value} {zs zs' : List Int} {w w' : World} (h : QB B W0 IT s pos v zs w) (ho : w'.ownsRowF B 5 1 v' zs'.length (Lib.intCells zs')) (hg : w.grownBy w' v.ownBlock) : QB B W0 IT s pos v' zs' w' :=
  ⟨ho, h.2.1.grown hg h.2.2.1 (fun k hk => (h.1.lt k hk).1), Nat.le_trans h.2.2.1 hg.size, h.2.2.2.1, (hg.block IT h.it_lt h.ne).trans h.2.2.2.2⟩
theorem QB.alloc {B : Nat} {W0 : World} {IT : Nat} {s : ByteArray} {pos : Nat} {v : Value} {zs : List Int} {w : World} (h : QB B W0 IT s pos v zs w) (o : Obj) : QB B W0 IT s pos v zs (w.alloc o) :=
  ⟨h.1.alloc o, h.2.1.alloc h.2.2.1 o, Nat.le_trans h.2.2.1 ((Below.refl 0 w).alloc (Nat.zero_le _) o).size, h.2.2.2.1, (Below.heap_alloc w o IT h.it_lt).trans h.2.2.2.2⟩
theorem QB.next {B : Nat} {W0 : World} {IT : Nat} {s : ByteArray} {pos : Nat} {v : Value} {zs : List Int} {w : World} (h : QB B W0 IT s pos v zs w) (pos' : Nat) : QB B W0 IT s pos' v zs (w.iterAt IT s pos') := by
  obtain ⟨h1, h2, h3, h4, h5⟩ := h
  have hsz : (w.iterAt IT s pos').heap.size = w.heap.size := by simp [World.iterAt]
  refine ⟨⟨h1.1, ?_⟩, ⟨h2.os, h2.tape, h2.output, by rw [hsz]; exact h2.size, fun k hk => ?_⟩, by rw [hsz]; exact h3, h4, Lib.iterAt_heap w IT s pos pos' h5⟩
  · rcases h1.2 with h0 | ⟨g, cap, cur, fz, hv, hb, hg, rest⟩
    · exact .inl h0
    · refine .inr ⟨g, cap, cur, fz, hv, hb, ?_, rest⟩
      rw [Lib.iterAt_other _ _ _ _ _ (fun e => by subst e; rw [h5] at hg; cases hg)]
      exact hg
  · rw [Lib.iterAt_other _ _ _ _ _ (by omega)]
    exact h2.block k hk

theorem cells_len (zs : List Int) : (Lib.intCells zs).length = zs.length := by unfold Lib.intCells; simp

/-- what the buffer's cells are -/
theorem QB.cells {B : Nat} {W0 : World} {IT : Nat} {s : ByteArray} {pos : Nat} {v : Value} {zs : List Int} {w : World} (h : QB B W0 IT s pos v zs w) (hl : 0 < zs.length) :
    ∃ g cap, v = .slice (some ⟨g, 0, none⟩) zs.length cap ∧ ∀ i, i < zs.length → w.cell? ⟨g, 0 + i, none⟩ = some (.int .u8 (zs.getD i 0)) := by
  rcases h.1.2 with ⟨_, h0⟩ | ⟨g, cap, cur, fz, rfl, _⟩
  · omega
  · refine ⟨g, cap, rfl, fun i hi => ?_⟩
    have := h.1.cells (g := g) (by simp [Value.ownBlock]) i (.int .u8 (zs.getD i 0)) (by simp [Lib.intCells, List.getD, List.getElem?_eq_getElem hi])
    by_cases hi0 : i = 0 <;> simpa [Addr.add, hi0] using this

section
variable {P : Program}
theorem wpList_qb_byte {ops : Array Oper} {rest : List Oper} {o : Oper} {a : Act} {Q : Exit → Act → World → Prop} (hgd : o.guard = none) (sl x : Operand) (t : TypeId)
    (ho : o.op = .call { callee := .builtin .append, args := #[sl, x], argTypes := #[t, t] })
    (i : TypeInfo) (ht : P.underlying t = some (.slice 5)) (hi : P.info? 5 = some i) (hz : i.zero = some (.int .u8 0)) (hsize : i.size = 1) (hby : i.bytes = 1)
    (B : Nat) (W0 : World) (IT : Nat) (s : ByteArray) (pos : Nat) (v : Value) (zs : List Int) (hs : a.eval sl = v) (w0 : World) (c : Int) (hb : QB B W0 IT s pos v zs w0)
    (hx : a.eval x = .slice (some ⟨w0.heap.size, 0, none⟩) 1 1) (hlen : zs.length + 1 ≤ 140737488355328)
    (h : ∀ v' w', QB B W0 IT s pos v' (zs ++ [c]) w' → wpList P ops Q rest (a.put o.dst v') w') : wpList P ops Q (o :: rest) a (w0.alloc (.cells #[.int .u8 c] 5)) := by
  have hb' := hb.alloc (.cells #[.int .u8 c] 5)
  refine wpList_append_ownF _ hgd sl x t ho B 5 i (.int .u8 0) 1 1 ht hi hz hsize hby rfl (by decide) v zs.length (Lib.intCells zs) hs hb'.1 ⟨w0.heap.size, 0, none⟩ 1 1 [.int .u8 c] hx rfl ?_ ?_ (by unfold maxLen; omega) (by omega) hb'.2.2.1 ?_
  · intro j u hj
    match j, hj with
    | 0, hj => simp at hj; subst hj; simp [Addr.add]
    | (j + 1), hj => simp at hj
  · intro u hu; simp at hu; subst hu; rfl
  · intro v' w' ho' hg _
    refine h v' w' (hb'.grown ?_ hg)
    have e1 : (zs ++ [c]).length = zs.length + 1 := by simp
    have e2 : Lib.intCells (zs ++ [c]) = Lib.intCells zs ++ [.int .u8 c] := by unfold Lib.intCells; simp
    rw [e1, e2]
    exact ho'
theorem wpList_qb_text {ops : Array Oper} {rest : List Oper} {o : Oper} {a : Act} {Q : Exit → Act → World → Prop} {w : World} (hgd : o.guard = none) (sl x : Operand) (t u : TypeId)
    (ho : o.op = .call { callee := .builtin .append, args := #[sl, x], argTypes := #[t, u] })
    (i : TypeInfo) (ht : P.underlying t = some (.slice 5)) (hu : P.underlying u = some .string) (hi : P.info? 5 = some i) (hz : i.zero = some (.int .u8 0)) (hsize : i.size = 1) (hby : i.bytes = 1)
    (B : Nat) (W0 : World) (IT : Nat) (s : ByteArray) (pos : Nat) (v : Value) (zs : List Int) (hs : a.eval sl = v) (hb : QB B W0 IT s pos v zs w) (p q : UInt8) (hx : a.eval x = .string ⟨#[p, q]⟩) (hlen : zs.length + 2 ≤ 140737488355328)
    (h : ∀ v' w', QB B W0 IT s pos v' (zs ++ [(p.toNat : Int), (q.toNat : Int)]) w' → wpList P ops Q rest (a.put o.dst v') w') : wpList P ops Q (o :: rest) a w := by
  have e0 : (⟨#[p, q]⟩ : ByteArray).size = 2 := rfl
  refine Lib.wpList_append_own_stringF w hgd sl x t u ho B 5 i ht hu hi hz hsize hby v zs.length (Lib.intCells zs) hs hb.1 ⟨#[p, q]⟩ hx (by rw [e0]; unfold maxLen; omega) (by rw [e0]; exact hlen) hb.2.2.1 ?_
  intro v' w' ho' hg _
  refine h v' w' (hb.grown ?_ hg)
  have e1 : (zs ++ [(p.toNat : Int), (q.toNat : Int)]).length = zs.length + 2 := by simp
  have e2 : Lib.intCells (zs ++ [(p.toNat : Int), (q.toNat : Int)]) = Lib.intCells zs ++ Lib.strCells ⟨#[p, q]⟩ := by unfold Lib.intCells; simp [Lib.strCells]
  rw [e1, e2]
  exact ho'
end

end Go.Proofs.YteejjhdfebhagaaDoor
