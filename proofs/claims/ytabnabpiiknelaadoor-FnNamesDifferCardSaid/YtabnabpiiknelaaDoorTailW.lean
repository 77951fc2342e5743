/- The bytes at the end of a new row as a string. -/
import Derived.Test.YtabnabpiiknelaaDoorFmtIntW
import Derived.Laws.BytesString
namespace Go.Proofs.YtabnabpiiknelaaDoor
open Go.ChangeShapes Go.WideShapes Go.ChangeAt Go.RowKit
set_option linter.unusedVariables false

theorem cells_tail (l : List UInt8) (n j : Nat) (v : Value) (h : (l.map fun b => Value.int .u8 (b.toNat : Int))[j]? = some v) (hl : l.length ≤ n) : (tail n l)[n - l.length + j]? = some v := by
  unfold tail
  rw [List.getElem?_toArray, List.getElem?_append_right (by simp)]
  simpa using h

theorem foldl_push (ns : List UInt8) (r : ByteArray) : (ns.map fun b => (b.toNat : Int)).foldl (fun r n => r.push (UInt8.ofNat n.toNat)) r = ⟨r.data ++ ns.toArray⟩ := by
  induction ns generalizing r with
  | nil => simp
  | cons b ns ih =>
    rw [List.map_cons, List.foldl_cons, ih]
    rw [Int.toNat_natCast, UInt8.ofNat_toNat]
    simp [ByteArray.push]

/-- The bytes at a row's end as a string. -/
theorem tail_string {E : TypeId} (w : World) (n k c : Nat) (l : List UInt8) (hk : l.length + k = n) :
    (convert 29 9 (.slice (some ⟨w.heap.size, k, none⟩) l.length c)).run Tryd.prog (bw E n w l) = .ok (.string ⟨l.toArray⟩) (bw E n w l) := by
  rw [run_convert_bytes_string _ _ _ 5 _ _ _ Tryd.underlying29 Tryd.underlying5 Tryd.underlying9]
  have hl := run_loadCells_list (P := Tryd.prog) (w := bw E n w l) ⟨w.heap.size, k, none⟩ (l.map fun b => Value.int .u8 (b.toNat : Int)) (by
    intro j v hj
    have hadd : (⟨w.heap.size, k, none⟩ : Addr).add j = ⟨w.heap.size, k + j, none⟩ := by unfold Addr.add; split <;> simp_all
    rw [hadd]
    unfold bw
    rw [World.cell?_alloc_at _ _ _ _ rfl]
    have := cells_tail l n j v hj (by omega)
    rwa [show n - l.length = k by omega] at this)
  rw [List.length_map] at hl
  have e : (l.map fun b => Value.int .u8 (b.toNat : Int)) = (l.map fun b => (b.toNat : Int)).map (Value.int .u8) := by rw [List.map_map]; rfl
  rw [e] at hl
  rw [run_bytesToString _ _ _ _ _ hl, foldl_push]
  simp

theorem grown_bw {W w : World} (h : Grown W w) (E : TypeId) (n : Nat) (l : List UInt8) : Grown W (bw E n w l) := h.alloc _ _

theorem grown_trans {a b c : World} (h : Grown a b) (k : Grown b c) : Grown a c :=
  ⟨World.keptBut_trans h.1 k.1, fun x => (k.2.1 x).trans (h.2.1 x), Nat.le_trans h.2.2 k.2.2⟩

theorem ret_str {a b : ByteArray} (h : a = b) : Ending.returned (.string a) = .returned (.string b) := by rw [h]

end Go.Proofs.YtabnabpiiknelaaDoor
