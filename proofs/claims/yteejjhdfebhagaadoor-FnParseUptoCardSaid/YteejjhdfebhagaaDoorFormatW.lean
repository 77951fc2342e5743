/- (time.Duration).format writes the text of the duration at the end of a new row of 32 bytes and returns where it begins; (time.Duration).String and impl.String return that text, for every int64. -/
import Derived.Test.YteejjhdfebhagaaDoorRows
import Derived.WalkKit
import Derived.ProofKit
import Derived.OpenShut
import Derived.Lib.Hide
import Derived.Laws.IdiomCopy
import Derived.Laws.BytesString
import Derived.Test.YteejjhdfebhagaaDoorFmtW
namespace Go.Proofs.YteejjhdfebhagaaDoor
open Go.ChangeShapes Go.WideShapes Go.ChangeAt Go.RowKit
set_option linter.unusedVariables false

theorem fmtFrac_is {E : TypeId} {k c p : Nat} {v v' : Int} {l l' : List UInt8} {k' : Nat} (w : World) (hk : l.length + k = 32) (h0 : 0 ≤ v) (hv : v ≤ 9223372036854775808) (hp : p + 1 ≤ k) (hv' : v / ((10 ^ p : Nat) : Int) = v') (hl' : frac v.toNat p ++ l = l') (hk' : l'.length + k' = 32) :
    Calls Tryd.prog 40 #[.slice (some ⟨w.heap.size, 0, none⟩) k c, .int .u64 v, .int .i64 (p : Int)] (bw E 32 w l) fun e w' => e = .returned (.tuple #[.int .i64 (k' : Int), .int .u64 v']) ∧ bw E 32 w l' = w' := by
  obtain ⟨u, rfl⟩ := Int.eq_ofNat_of_zero_le h0
  rw [Int.toNat_natCast] at hl'
  refine (fmtFrac_any E 32 k c u p l w hk (by omega) (by omega) hp).mono ?_
  rintro e w' ⟨rfl, rfl⟩
  subst hl'
  have e1 : k - (frac u p).length = k' := by simp at hk'; omega
  rw [e1, ← hv']
  exact ⟨rfl, rfl⟩

theorem fmtInt_is {E : TypeId} {k c : Nat} {v : Int} {l l' : List UInt8} {k' : Nat} (w : World) (hk : l.length + k = 32) (h0 : 0 ≤ v) (hv : v ≤ 9223372036854775808) (hl' : dec v.toNat ++ l = l') (hk' : l'.length + k' = 32) :
    Calls Tryd.prog 41 #[.slice (some ⟨w.heap.size, 0, none⟩) k c, .int .u64 v] (bw E 32 w l) fun e w' => e = .returned (.int .i64 (k' : Int)) ∧ bw E 32 w l' = w' := by
  obtain ⟨u, rfl⟩ := Int.eq_ofNat_of_zero_le h0
  rw [Int.toNat_natCast] at hl'
  subst hl'
  refine (fmtInt_any E 32 k c u l w hk (by omega) (by omega) (by simp at hk'; omega)).mono ?_
  rintro e w' ⟨rfl, rfl⟩
  have e1 : k - (dec u).length = k' := by simp at hk'; omega
  rw [e1]
  exact ⟨rfl, rfl⟩

theorem micro_set {E : TypeId} (w : World) : (bw E 32 w [115]).setCells w.heap.size 29 [Value.int .u8 194, Value.int .u8 181] = bw E 32 w [194, 181, 115] := by
  unfold bw
  simp only [World.setCells]
  rw [World.setCell_alloc_at _ _ _ _ _ rfl, World.setCell_alloc_at _ _ _ _ _ rfl]
  rfl

theorem micro_copy {E : TypeId} (w : World) : (Builtin.copy_ #[53, 9] 3 #[.slice (some ⟨w.heap.size, 29, none⟩) 3 3, .string ⟨#[194, 181]⟩]).run Tryd.prog (bw E 32 w [115]) = .ok (goInt 2) (bw E 32 w [194, 181, 115]) := by
  have hst := run_storeCells_cells (P := Tryd.prog) w.heap.size 29 [Value.int .u8 194, Value.int .u8 181] 0 (bw E 32 w [115])
    (fun j hj => by
      have : j < 2 := hj
      rw [bw_cell (by simp; omega)]; rfl)
    (fun j hj => bw_frozen) (fun v hv => by simp at hv; rcases hv with rfl | rfl <;> rfl)
  rw [micro_set] at hst
  have hq : (Tryd.prog.info? 5).map (·.size) = some 1 := by kernel_rfl
  cases hi : Tryd.prog.info? 5 with
  | none => rw [hi] at hq; cases hq
  | some i =>
    have hm : Nat.min (ByteArray.size ⟨#[194, 181]⟩) 3 = 2 := by decide
    have hst' : (storeCells ⟨w.heap.size, 29, none⟩ [Value.int .u8 194, Value.int .u8 181]).run Tryd.prog (bw E 32 w [115]) = .ok () (bw E 32 w [194, 181, 115]) := hst
    simp [Builtin.copy_, run_underlying Tryd.underlying53, Builtin.lenOf, Builtin.firstCells, sizeOf, typeInfo, hi]
    rw [hm]
    simp [hst']

set_option maxRecDepth 100000 in
theorem format_zero (E : TypeId) (w : World) :
    Calls Tryd.prog 36 #[.int .i64 0, .pointer (some ⟨w.heap.size, 0, none⟩)] (bw E 32 w []) fun e w' => e = .returned (.int .i64 30) ∧ bw E 32 w [48, 115] = w' := by
  have hc1 := bw_cell (E := E) (n := 32) (w := w) (l := []) (k := 31) (by decide)
  have hf1 := bw_frozen (E := E) (n := 32) (w := w) (l := []) (k := 31)
  have hs1 : (bw E 32 w []).setCell ⟨w.heap.size, 31, none⟩ (Value.int .u8 115) = bw E 32 w [115] := bw_set 115 (by decide)
  have hc2 := bw_cell (E := E) (n := 32) (w := w) (l := [115]) (k := 30) (by decide)
  have hf2 := bw_frozen (E := E) (n := 32) (w := w) (l := [115]) (k := 30)
  have hs2 : (bw E 32 w [115]).setCell ⟨w.heap.size, 30, none⟩ (Value.int .u8 48) = bw E 32 w [48, 115] := bw_set 48 (by decide)
  go_enter Tryd.func36, Tryd.ntmps36
  go_wp2
  go_ret
  exact ⟨rfl, rfl⟩

set_option maxRecDepth 100000 in
set_option maxHeartbeats 1000000 in
theorem format_ns (E : TypeId) (w : World) (u : Int) (l1 l2 : List UInt8) (k1 k2 : Nat) (h0 : 1 ≤ u) (h1 : u < 1000) (L1 : Hid (frac u.toNat 0 ++ [110, 115] = l1)) (K1 : Hid (l1.length + k1 = 32)) (L2 : Hid (dec (u / 1).toNat ++ l1 = l2)) (K2 : Hid (l2.length + k2 = 32)) :
    Calls Tryd.prog 36 #[.int .i64 u, .pointer (some ⟨w.heap.size, 0, none⟩)] (bw E 32 w []) fun e w' => e = .returned (.int .i64 (k2 : Int)) ∧ bw E 32 w l2 = w' := by
  have hk1 : (k1 : Int) ≤ 32 := by have := K1.out; omega
  have hk2 : (k2 : Int) ≤ 32 := by have := K2.out; omega
  have hc1 := bw_cell (E := E) (n := 32) (w := w) (l := []) (k := 31) (by decide)
  have hf1 := bw_frozen (E := E) (n := 32) (w := w) (l := []) (k := 31)
  have hs1 : (bw E 32 w []).setCell ⟨w.heap.size, 31, none⟩ (Value.int .u8 115) = bw E 32 w [115] := bw_set 115 (by decide)
  have hc2 := bw_cell (E := E) (n := 32) (w := w) (l := [115]) (k := 30) (by decide)
  have hf2 := bw_frozen (E := E) (n := 32) (w := w) (l := [115]) (k := 30)
  have hs2 : (bw E 32 w [115]).setCell ⟨w.heap.size, 30, none⟩ (Value.int .u8 110) = bw E 32 w [110, 115] := bw_set 110 (by decide)
  go_enter Tryd.func36, Tryd.ntmps36
  go_wp2_with fail
  refine (fmtFrac_is (p := 0) (v' := u) (l := [110, 115]) (k := 30) w (by decide) (by omega) (by omega) (by decide) (by simp) L1.out K1.out).mono ?_
  rintro e w' ⟨rfl, rfl⟩
  go_wp2_with fail
  refine (fmtInt_is (v := u) (k' := k2) w K1.out (by omega) (by omega) (by have := L2.out; simpa using this) K2.out).mono ?_
  rintro e w' ⟨rfl, rfl⟩
  go_wp2
  go_ret
  exact ⟨rfl, rfl⟩

set_option maxRecDepth 100000 in
set_option maxHeartbeats 1000000 in
theorem format_ns_neg (E : TypeId) (w : World) (u : Int) (l1 l2 : List UInt8) (k1 k2 : Nat) (h0 : 1 ≤ u) (h1 : u < 1000) (L1 : Hid (frac u.toNat 0 ++ [110, 115] = l1)) (K1 : Hid (l1.length + k1 = 32)) (L2 : Hid (dec (u / 1).toNat ++ l1 = l2)) (K2 : Hid (l2.length + (k2 + 1) = 32)) :
    Calls Tryd.prog 36 #[.int .i64 (-u), .pointer (some ⟨w.heap.size, 0, none⟩)] (bw E 32 w []) fun e w' => e = .returned (.int .i64 (k2 : Int)) ∧ bw E 32 w (45 :: l2) = w' := by
  have hk1 : (k1 : Int) ≤ 32 := by have := K1.out; omega
  have hk2 : (k2 : Int) ≤ 32 := by have := K2.out; omega
  have hc1 := bw_cell (E := E) (n := 32) (w := w) (l := []) (k := 31) (by decide)
  have hf1 := bw_frozen (E := E) (n := 32) (w := w) (l := []) (k := 31)
  have hs1 : (bw E 32 w []).setCell ⟨w.heap.size, 31, none⟩ (Value.int .u8 115) = bw E 32 w [115] := bw_set 115 (by decide)
  have hc2 := bw_cell (E := E) (n := 32) (w := w) (l := [115]) (k := 30) (by decide)
  have hf2 := bw_frozen (E := E) (n := 32) (w := w) (l := [115]) (k := 30)
  have hs2 : (bw E 32 w [115]).setCell ⟨w.heap.size, 30, none⟩ (Value.int .u8 110) = bw E 32 w [110, 115] := bw_set 110 (by decide)
  have hw : IntKind.u64.wrap (-IntKind.u64.wrap (-u)) = u := by simp only [IntKind.wrap_u64]; omega
  have hi9 : (k2 : Int) < 32 := by have := K2.out; omega
  have hc9 := bw_cell (E := E) (n := 32) (w := w) (l := l2) (k := k2) (by have := K2.out; omega)
  have hf9 := bw_frozen (E := E) (n := 32) (w := w) (l := l2) (k := k2)
  have hs9 : (bw E 32 w l2).setCell ⟨w.heap.size, k2, none⟩ (Value.int .u8 45) = bw E 32 w (45 :: l2) := bw_set 45 (by have := K2.out; omega)
  go_enter Tryd.func36, Tryd.ntmps36
  go_wp2_with fail
  refine (fmtFrac_is (p := 0) (v' := u) (l := [110, 115]) (k := 30) w (by decide) (by omega) (by omega) (by decide) (by simp) L1.out K1.out).mono ?_
  rintro e w' ⟨rfl, rfl⟩
  go_wp2_with fail
  refine (fmtInt_is (v := u) (k' := k2 + 1) w K1.out (by omega) (by omega) (by have := L2.out; simpa using this) K2.out).mono ?_
  rintro e w' ⟨rfl, rfl⟩
  go_wp2
  go_ret
  exact ⟨rfl, rfl⟩

set_option maxRecDepth 100000 in
set_option maxHeartbeats 1000000 in
theorem format_us (E : TypeId) (w : World) (u : Int) (l1 l2 : List UInt8) (k1 k2 : Nat) (h0 : 1000 ≤ u) (h1 : u < 1000000) (L1 : Hid (frac u.toNat 3 ++ [194, 181, 115] = l1)) (K1 : Hid (l1.length + k1 = 32)) (L2 : Hid (dec (u / 1000).toNat ++ l1 = l2)) (K2 : Hid (l2.length + k2 = 32)) :
    Calls Tryd.prog 36 #[.int .i64 u, .pointer (some ⟨w.heap.size, 0, none⟩)] (bw E 32 w []) fun e w' => e = .returned (.int .i64 (k2 : Int)) ∧ bw E 32 w l2 = w' := by
  have hk1 : (k1 : Int) ≤ 32 := by have := K1.out; omega
  have hk2 : (k2 : Int) ≤ 32 := by have := K2.out; omega
  have hc1 := bw_cell (E := E) (n := 32) (w := w) (l := []) (k := 31) (by decide)
  have hf1 := bw_frozen (E := E) (n := 32) (w := w) (l := []) (k := 31)
  have hs1 : (bw E 32 w []).setCell ⟨w.heap.size, 31, none⟩ (Value.int .u8 115) = bw E 32 w [115] := bw_set 115 (by decide)
  have hcp := micro_copy (E := E) w
  go_enter Tryd.func36, Tryd.ntmps36
  go_wp2_with fail
  refine (fmtFrac_is (p := 3) (l := [194, 181, 115]) (k := 29) w (by decide) (by omega) (by omega) (by decide) rfl L1.out K1.out).mono ?_
  rintro e w' ⟨rfl, rfl⟩
  go_wp2_with fail
  refine (fmtInt_is (v := u / 1000) (k' := k2) w K1.out (by omega) (by omega) L2.out K2.out).mono ?_
  rintro e w' ⟨rfl, rfl⟩
  go_wp2
  go_ret
  exact ⟨rfl, rfl⟩

set_option maxRecDepth 100000 in
set_option maxHeartbeats 1000000 in
theorem format_us_neg (E : TypeId) (w : World) (u : Int) (l1 l2 : List UInt8) (k1 k2 : Nat) (h0 : 1000 ≤ u) (h1 : u < 1000000) (L1 : Hid (frac u.toNat 3 ++ [194, 181, 115] = l1)) (K1 : Hid (l1.length + k1 = 32)) (L2 : Hid (dec (u / 1000).toNat ++ l1 = l2)) (K2 : Hid (l2.length + (k2 + 1) = 32)) :
    Calls Tryd.prog 36 #[.int .i64 (-u), .pointer (some ⟨w.heap.size, 0, none⟩)] (bw E 32 w []) fun e w' => e = .returned (.int .i64 (k2 : Int)) ∧ bw E 32 w (45 :: l2) = w' := by
  have hk1 : (k1 : Int) ≤ 32 := by have := K1.out; omega
  have hk2 : (k2 : Int) ≤ 32 := by have := K2.out; omega
  have hc1 := bw_cell (E := E) (n := 32) (w := w) (l := []) (k := 31) (by decide)
  have hf1 := bw_frozen (E := E) (n := 32) (w := w) (l := []) (k := 31)
  have hs1 : (bw E 32 w []).setCell ⟨w.heap.size, 31, none⟩ (Value.int .u8 115) = bw E 32 w [115] := bw_set 115 (by decide)
  have hcp := micro_copy (E := E) w
  have hw : IntKind.u64.wrap (-IntKind.u64.wrap (-u)) = u := by simp only [IntKind.wrap_u64]; omega
  have hi9 : (k2 : Int) < 32 := by have := K2.out; omega
  have hc9 := bw_cell (E := E) (n := 32) (w := w) (l := l2) (k := k2) (by have := K2.out; omega)
  have hf9 := bw_frozen (E := E) (n := 32) (w := w) (l := l2) (k := k2)
  have hs9 : (bw E 32 w l2).setCell ⟨w.heap.size, k2, none⟩ (Value.int .u8 45) = bw E 32 w (45 :: l2) := bw_set 45 (by have := K2.out; omega)
  go_enter Tryd.func36, Tryd.ntmps36
  go_wp2_with fail
  refine (fmtFrac_is (p := 3) (l := [194, 181, 115]) (k := 29) w (by decide) (by omega) (by omega) (by decide) rfl L1.out K1.out).mono ?_
  rintro e w' ⟨rfl, rfl⟩
  go_wp2_with fail
  refine (fmtInt_is (v := u / 1000) (k' := k2 + 1) w K1.out (by omega) (by omega) L2.out K2.out).mono ?_
  rintro e w' ⟨rfl, rfl⟩
  go_wp2
  go_ret
  exact ⟨rfl, rfl⟩

set_option maxRecDepth 100000 in
set_option maxHeartbeats 1000000 in
theorem format_ms (E : TypeId) (w : World) (u : Int) (l1 l2 : List UInt8) (k1 k2 : Nat) (h0 : 1000000 ≤ u) (h1 : u < 1000000000) (L1 : Hid (frac u.toNat 6 ++ [109, 115] = l1)) (K1 : Hid (l1.length + k1 = 32)) (L2 : Hid (dec (u / 1000000).toNat ++ l1 = l2)) (K2 : Hid (l2.length + k2 = 32)) :
    Calls Tryd.prog 36 #[.int .i64 u, .pointer (some ⟨w.heap.size, 0, none⟩)] (bw E 32 w []) fun e w' => e = .returned (.int .i64 (k2 : Int)) ∧ bw E 32 w l2 = w' := by
  have hk1 : (k1 : Int) ≤ 32 := by have := K1.out; omega
  have hk2 : (k2 : Int) ≤ 32 := by have := K2.out; omega
  have hc1 := bw_cell (E := E) (n := 32) (w := w) (l := []) (k := 31) (by decide)
  have hf1 := bw_frozen (E := E) (n := 32) (w := w) (l := []) (k := 31)
  have hs1 : (bw E 32 w []).setCell ⟨w.heap.size, 31, none⟩ (Value.int .u8 115) = bw E 32 w [115] := bw_set 115 (by decide)
  have hc2 := bw_cell (E := E) (n := 32) (w := w) (l := [115]) (k := 30) (by decide)
  have hf2 := bw_frozen (E := E) (n := 32) (w := w) (l := [115]) (k := 30)
  have hs2 : (bw E 32 w [115]).setCell ⟨w.heap.size, 30, none⟩ (Value.int .u8 109) = bw E 32 w [109, 115] := bw_set 109 (by decide)
  go_enter Tryd.func36, Tryd.ntmps36
  go_wp2_with fail
  refine (fmtFrac_is (p := 6) (l := [109, 115]) (k := 30) w (by decide) (by omega) (by omega) (by decide) rfl L1.out K1.out).mono ?_
  rintro e w' ⟨rfl, rfl⟩
  go_wp2_with fail
  refine (fmtInt_is (v := u / 1000000) (k' := k2) w K1.out (by omega) (by omega) L2.out K2.out).mono ?_
  rintro e w' ⟨rfl, rfl⟩
  go_wp2
  go_ret
  exact ⟨rfl, rfl⟩

set_option maxRecDepth 100000 in
set_option maxHeartbeats 1000000 in
theorem format_ms_neg (E : TypeId) (w : World) (u : Int) (l1 l2 : List UInt8) (k1 k2 : Nat) (h0 : 1000000 ≤ u) (h1 : u < 1000000000) (L1 : Hid (frac u.toNat 6 ++ [109, 115] = l1)) (K1 : Hid (l1.length + k1 = 32)) (L2 : Hid (dec (u / 1000000).toNat ++ l1 = l2)) (K2 : Hid (l2.length + (k2 + 1) = 32)) :
    Calls Tryd.prog 36 #[.int .i64 (-u), .pointer (some ⟨w.heap.size, 0, none⟩)] (bw E 32 w []) fun e w' => e = .returned (.int .i64 (k2 : Int)) ∧ bw E 32 w (45 :: l2) = w' := by
  have hk1 : (k1 : Int) ≤ 32 := by have := K1.out; omega
  have hk2 : (k2 : Int) ≤ 32 := by have := K2.out; omega
  have hc1 := bw_cell (E := E) (n := 32) (w := w) (l := []) (k := 31) (by decide)
  have hf1 := bw_frozen (E := E) (n := 32) (w := w) (l := []) (k := 31)
  have hs1 : (bw E 32 w []).setCell ⟨w.heap.size, 31, none⟩ (Value.int .u8 115) = bw E 32 w [115] := bw_set 115 (by decide)
  have hc2 := bw_cell (E := E) (n := 32) (w := w) (l := [115]) (k := 30) (by decide)
  have hf2 := bw_frozen (E := E) (n := 32) (w := w) (l := [115]) (k := 30)
  have hs2 : (bw E 32 w [115]).setCell ⟨w.heap.size, 30, none⟩ (Value.int .u8 109) = bw E 32 w [109, 115] := bw_set 109 (by decide)
  have hw : IntKind.u64.wrap (-IntKind.u64.wrap (-u)) = u := by simp only [IntKind.wrap_u64]; omega
  have hi9 : (k2 : Int) < 32 := by have := K2.out; omega
  have hc9 := bw_cell (E := E) (n := 32) (w := w) (l := l2) (k := k2) (by have := K2.out; omega)
  have hf9 := bw_frozen (E := E) (n := 32) (w := w) (l := l2) (k := k2)
  have hs9 : (bw E 32 w l2).setCell ⟨w.heap.size, k2, none⟩ (Value.int .u8 45) = bw E 32 w (45 :: l2) := bw_set 45 (by have := K2.out; omega)
  go_enter Tryd.func36, Tryd.ntmps36
  go_wp2_with fail
  refine (fmtFrac_is (p := 6) (l := [109, 115]) (k := 30) w (by decide) (by omega) (by omega) (by decide) rfl L1.out K1.out).mono ?_
  rintro e w' ⟨rfl, rfl⟩
  go_wp2_with fail
  refine (fmtInt_is (v := u / 1000000) (k' := k2 + 1) w K1.out (by omega) (by omega) L2.out K2.out).mono ?_
  rintro e w' ⟨rfl, rfl⟩
  go_wp2
  go_ret
  exact ⟨rfl, rfl⟩

set_option maxRecDepth 100000 in
set_option maxHeartbeats 1000000 in
theorem format_s (E : TypeId) (w : World) (u : Int) (l1 l2 : List UInt8) (k1 k2 : Nat) (h0 : 1000000000 ≤ u) (h1 : u ≤ 9223372036854775808) (L1 : Hid (frac u.toNat 9 ++ [115] = l1)) (K1 : Hid (l1.length + k1 = 32)) (L2 : Hid (dec (u / 1000000000 % 60).toNat ++ l1 = l2)) (K2 : Hid (l2.length + k2 = 32)) (hm : u / 1000000000 / 60 ≤ 0) :
    Calls Tryd.prog 36 #[.int .i64 u, .pointer (some ⟨w.heap.size, 0, none⟩)] (bw E 32 w []) fun e w' => e = .returned (.int .i64 (k2 : Int)) ∧ bw E 32 w l2 = w' := by
  have hc1 := bw_cell (E := E) (n := 32) (w := w) (l := []) (k := 31) (by decide)
  have hf1 := bw_frozen (E := E) (n := 32) (w := w) (l := []) (k := 31)
  have hs1 : (bw E 32 w []).setCell ⟨w.heap.size, 31, none⟩ (Value.int .u8 115) = bw E 32 w [115] := bw_set 115 (by decide)
  have hk1 : (k1 : Int) ≤ 32 := by have := K1.out; omega
  have hk2 : (k2 : Int) ≤ 32 := by have := K2.out; omega
  go_enter Tryd.func36, Tryd.ntmps36
  go_wp2_with fail
  refine (fmtFrac_is (p := 9) (v' := u / 1000000000) (l := [115]) (k := 31) w (by decide) (by omega) (by omega) (by decide) (by simp) L1.out K1.out).mono ?_
  rintro e w' ⟨rfl, rfl⟩
  go_wp2_with fail
  refine (fmtInt_is (v := u / 1000000000 % 60) (k' := k2) w K1.out (by omega) (by omega) L2.out K2.out).mono ?_
  rintro e w' ⟨rfl, rfl⟩
  go_wp2
  go_ret
  exact ⟨rfl, rfl⟩

set_option maxRecDepth 100000 in
set_option maxHeartbeats 1000000 in
theorem format_s_neg (E : TypeId) (w : World) (u : Int) (l1 l2 : List UInt8) (k1 k2 : Nat) (h0 : 1000000000 ≤ u) (h1 : u ≤ 9223372036854775808) (L1 : Hid (frac u.toNat 9 ++ [115] = l1)) (K1 : Hid (l1.length + k1 = 32)) (L2 : Hid (dec (u / 1000000000 % 60).toNat ++ l1 = l2)) (K2 : Hid (l2.length + (k2 + 1) = 32)) (hm : u / 1000000000 / 60 ≤ 0) :
    Calls Tryd.prog 36 #[.int .i64 (-u), .pointer (some ⟨w.heap.size, 0, none⟩)] (bw E 32 w []) fun e w' => e = .returned (.int .i64 (k2 : Int)) ∧ bw E 32 w (45 :: l2) = w' := by
  have hc1 := bw_cell (E := E) (n := 32) (w := w) (l := []) (k := 31) (by decide)
  have hf1 := bw_frozen (E := E) (n := 32) (w := w) (l := []) (k := 31)
  have hs1 : (bw E 32 w []).setCell ⟨w.heap.size, 31, none⟩ (Value.int .u8 115) = bw E 32 w [115] := bw_set 115 (by decide)
  have hk1 : (k1 : Int) ≤ 32 := by have := K1.out; omega
  have hk2 : (k2 : Int) ≤ 32 := by have := K2.out; omega
  have hw : IntKind.u64.wrap (-IntKind.u64.wrap (-u)) = u := by simp only [IntKind.wrap_u64]; omega
  have hi9 : (k2 : Int) < 32 := by have := K2.out; omega
  have hc9 := bw_cell (E := E) (n := 32) (w := w) (l := l2) (k := k2) (by have := K2.out; omega)
  have hf9 := bw_frozen (E := E) (n := 32) (w := w) (l := l2) (k := k2)
  have hs9 : (bw E 32 w l2).setCell ⟨w.heap.size, k2, none⟩ (Value.int .u8 45) = bw E 32 w (45 :: l2) := bw_set 45 (by have := K2.out; omega)
  go_enter Tryd.func36, Tryd.ntmps36
  go_wp2_with fail
  refine (fmtFrac_is (p := 9) (v' := u / 1000000000) (l := [115]) (k := 31) w (by decide) (by omega) (by omega) (by decide) (by simp) L1.out K1.out).mono ?_
  rintro e w' ⟨rfl, rfl⟩
  go_wp2_with fail
  refine (fmtInt_is (v := u / 1000000000 % 60) (k' := k2 + 1) w K1.out (by omega) (by omega) L2.out K2.out).mono ?_
  rintro e w' ⟨rfl, rfl⟩
  go_wp2
  go_ret
  exact ⟨rfl, rfl⟩

set_option maxRecDepth 100000 in
set_option maxHeartbeats 1000000 in
theorem format_m (E : TypeId) (w : World) (u : Int) (l1 l2 l3 : List UInt8) (k1 k2 k3 : Nat) (h0 : 1000000000 ≤ u) (h1 : u ≤ 9223372036854775808) (L1 : Hid (frac u.toNat 9 ++ [115] = l1)) (K1 : Hid (l1.length + k1 = 32)) (L2 : Hid (dec (u / 1000000000 % 60).toNat ++ l1 = l2)) (K2 : Hid (l2.length + (k2 + 1) = 32)) (hm : 0 < u / 1000000000 / 60) (L3 : Hid (dec (u / 1000000000 / 60 % 60).toNat ++ (109 :: l2) = l3)) (K3 : Hid (l3.length + k3 = 32)) (hh : u / 1000000000 / 60 / 60 ≤ 0) :
    Calls Tryd.prog 36 #[.int .i64 u, .pointer (some ⟨w.heap.size, 0, none⟩)] (bw E 32 w []) fun e w' => e = .returned (.int .i64 (k3 : Int)) ∧ bw E 32 w l3 = w' := by
  have hc1 := bw_cell (E := E) (n := 32) (w := w) (l := []) (k := 31) (by decide)
  have hf1 := bw_frozen (E := E) (n := 32) (w := w) (l := []) (k := 31)
  have hs1 : (bw E 32 w []).setCell ⟨w.heap.size, 31, none⟩ (Value.int .u8 115) = bw E 32 w [115] := bw_set 115 (by decide)
  have hk1 : (k1 : Int) ≤ 32 := by have := K1.out; omega
  have hk2 : (k2 : Int) ≤ 32 := by have := K2.out; omega
  have hi3 : (k2 : Int) < 32 := by have := K2.out; omega
  have hc3 := bw_cell (E := E) (n := 32) (w := w) (l := l2) (k := k2) (by have := K2.out; omega)
  have hf3 := bw_frozen (E := E) (n := 32) (w := w) (l := l2) (k := k2)
  have hs3 : (bw E 32 w l2).setCell ⟨w.heap.size, k2, none⟩ (Value.int .u8 109) = bw E 32 w (109 :: l2) := bw_set 109 (by have := K2.out; omega)
  have hk3 : (k3 : Int) ≤ 32 := by have := K3.out; omega
  go_enter Tryd.func36, Tryd.ntmps36
  go_wp2_with fail
  refine (fmtFrac_is (p := 9) (v' := u / 1000000000) (l := [115]) (k := 31) w (by decide) (by omega) (by omega) (by decide) (by simp) L1.out K1.out).mono ?_
  rintro e w' ⟨rfl, rfl⟩
  go_wp2_with fail
  refine (fmtInt_is (v := u / 1000000000 % 60) (k' := k2 + 1) w K1.out (by omega) (by omega) L2.out K2.out).mono ?_
  rintro e w' ⟨rfl, rfl⟩
  go_wp2_with fail
  refine (fmtInt_is (v := u / 1000000000 / 60 % 60) (l := 109 :: l2) (k := k2) (k' := k3) w (by have := K2.out; simp; omega) (by omega) (by omega) L3.out K3.out).mono ?_
  rintro e w' ⟨rfl, rfl⟩
  go_wp2
  go_ret
  exact ⟨rfl, rfl⟩

set_option maxRecDepth 100000 in
set_option maxHeartbeats 1000000 in
theorem format_m_neg (E : TypeId) (w : World) (u : Int) (l1 l2 l3 : List UInt8) (k1 k2 k3 : Nat) (h0 : 1000000000 ≤ u) (h1 : u ≤ 9223372036854775808) (L1 : Hid (frac u.toNat 9 ++ [115] = l1)) (K1 : Hid (l1.length + k1 = 32)) (L2 : Hid (dec (u / 1000000000 % 60).toNat ++ l1 = l2)) (K2 : Hid (l2.length + (k2 + 1) = 32)) (hm : 0 < u / 1000000000 / 60) (L3 : Hid (dec (u / 1000000000 / 60 % 60).toNat ++ (109 :: l2) = l3)) (K3 : Hid (l3.length + (k3 + 1) = 32)) (hh : u / 1000000000 / 60 / 60 ≤ 0) :
    Calls Tryd.prog 36 #[.int .i64 (-u), .pointer (some ⟨w.heap.size, 0, none⟩)] (bw E 32 w []) fun e w' => e = .returned (.int .i64 (k3 : Int)) ∧ bw E 32 w (45 :: l3) = w' := by
  have hc1 := bw_cell (E := E) (n := 32) (w := w) (l := []) (k := 31) (by decide)
  have hf1 := bw_frozen (E := E) (n := 32) (w := w) (l := []) (k := 31)
  have hs1 : (bw E 32 w []).setCell ⟨w.heap.size, 31, none⟩ (Value.int .u8 115) = bw E 32 w [115] := bw_set 115 (by decide)
  have hk1 : (k1 : Int) ≤ 32 := by have := K1.out; omega
  have hk2 : (k2 : Int) ≤ 32 := by have := K2.out; omega
  have hi3 : (k2 : Int) < 32 := by have := K2.out; omega
  have hc3 := bw_cell (E := E) (n := 32) (w := w) (l := l2) (k := k2) (by have := K2.out; omega)
  have hf3 := bw_frozen (E := E) (n := 32) (w := w) (l := l2) (k := k2)
  have hs3 : (bw E 32 w l2).setCell ⟨w.heap.size, k2, none⟩ (Value.int .u8 109) = bw E 32 w (109 :: l2) := bw_set 109 (by have := K2.out; omega)
  have hk3 : (k3 : Int) ≤ 32 := by have := K3.out; omega
  have hw : IntKind.u64.wrap (-IntKind.u64.wrap (-u)) = u := by simp only [IntKind.wrap_u64]; omega
  have hi9 : (k3 : Int) < 32 := by have := K3.out; omega
  have hc9 := bw_cell (E := E) (n := 32) (w := w) (l := l3) (k := k3) (by have := K3.out; omega)
  have hf9 := bw_frozen (E := E) (n := 32) (w := w) (l := l3) (k := k3)
  have hs9 : (bw E 32 w l3).setCell ⟨w.heap.size, k3, none⟩ (Value.int .u8 45) = bw E 32 w (45 :: l3) := bw_set 45 (by have := K3.out; omega)
  go_enter Tryd.func36, Tryd.ntmps36
  go_wp2_with fail
  refine (fmtFrac_is (p := 9) (v' := u / 1000000000) (l := [115]) (k := 31) w (by decide) (by omega) (by omega) (by decide) (by simp) L1.out K1.out).mono ?_
  rintro e w' ⟨rfl, rfl⟩
  go_wp2_with fail
  refine (fmtInt_is (v := u / 1000000000 % 60) (k' := k2 + 1) w K1.out (by omega) (by omega) L2.out K2.out).mono ?_
  rintro e w' ⟨rfl, rfl⟩
  go_wp2_with fail
  refine (fmtInt_is (v := u / 1000000000 / 60 % 60) (l := 109 :: l2) (k := k2) (k' := k3 + 1) w (by have := K2.out; simp; omega) (by omega) (by omega) L3.out K3.out).mono ?_
  rintro e w' ⟨rfl, rfl⟩
  go_wp2
  go_ret
  exact ⟨rfl, rfl⟩

set_option maxRecDepth 100000 in
set_option maxHeartbeats 1000000 in
theorem format_h (E : TypeId) (w : World) (u : Int) (l1 l2 l3 l4 : List UInt8) (k1 k2 k3 k4 : Nat) (h0 : 1000000000 ≤ u) (h1 : u ≤ 9223372036854775808) (L1 : Hid (frac u.toNat 9 ++ [115] = l1)) (K1 : Hid (l1.length + k1 = 32)) (L2 : Hid (dec (u / 1000000000 % 60).toNat ++ l1 = l2)) (K2 : Hid (l2.length + (k2 + 1) = 32)) (hm : 0 < u / 1000000000 / 60) (L3 : Hid (dec (u / 1000000000 / 60 % 60).toNat ++ (109 :: l2) = l3)) (K3 : Hid (l3.length + (k3 + 1) = 32)) (hh : 0 < u / 1000000000 / 60 / 60) (L4 : Hid (dec (u / 1000000000 / 60 / 60).toNat ++ (104 :: l3) = l4)) (K4 : Hid (l4.length + k4 = 32)) :
    Calls Tryd.prog 36 #[.int .i64 u, .pointer (some ⟨w.heap.size, 0, none⟩)] (bw E 32 w []) fun e w' => e = .returned (.int .i64 (k4 : Int)) ∧ bw E 32 w l4 = w' := by
  have hc1 := bw_cell (E := E) (n := 32) (w := w) (l := []) (k := 31) (by decide)
  have hf1 := bw_frozen (E := E) (n := 32) (w := w) (l := []) (k := 31)
  have hs1 : (bw E 32 w []).setCell ⟨w.heap.size, 31, none⟩ (Value.int .u8 115) = bw E 32 w [115] := bw_set 115 (by decide)
  have hk1 : (k1 : Int) ≤ 32 := by have := K1.out; omega
  have hk2 : (k2 : Int) ≤ 32 := by have := K2.out; omega
  have hi3 : (k2 : Int) < 32 := by have := K2.out; omega
  have hc3 := bw_cell (E := E) (n := 32) (w := w) (l := l2) (k := k2) (by have := K2.out; omega)
  have hf3 := bw_frozen (E := E) (n := 32) (w := w) (l := l2) (k := k2)
  have hs3 : (bw E 32 w l2).setCell ⟨w.heap.size, k2, none⟩ (Value.int .u8 109) = bw E 32 w (109 :: l2) := bw_set 109 (by have := K2.out; omega)
  have hk3 : (k3 : Int) ≤ 32 := by have := K3.out; omega
  have hi4 : (k3 : Int) < 32 := by have := K3.out; omega
  have hc4 := bw_cell (E := E) (n := 32) (w := w) (l := l3) (k := k3) (by have := K3.out; omega)
  have hf4 := bw_frozen (E := E) (n := 32) (w := w) (l := l3) (k := k3)
  have hs4 : (bw E 32 w l3).setCell ⟨w.heap.size, k3, none⟩ (Value.int .u8 104) = bw E 32 w (104 :: l3) := bw_set 104 (by have := K3.out; omega)
  have hk4 : (k4 : Int) ≤ 32 := by have := K4.out; omega
  go_enter Tryd.func36, Tryd.ntmps36
  go_wp2_with fail
  refine (fmtFrac_is (p := 9) (v' := u / 1000000000) (l := [115]) (k := 31) w (by decide) (by omega) (by omega) (by decide) (by simp) L1.out K1.out).mono ?_
  rintro e w' ⟨rfl, rfl⟩
  go_wp2_with fail
  refine (fmtInt_is (v := u / 1000000000 % 60) (k' := k2 + 1) w K1.out (by omega) (by omega) L2.out K2.out).mono ?_
  rintro e w' ⟨rfl, rfl⟩
  go_wp2_with fail
  refine (fmtInt_is (v := u / 1000000000 / 60 % 60) (l := 109 :: l2) (k := k2) (k' := k3 + 1) w (by have := K2.out; simp; omega) (by omega) (by omega) L3.out K3.out).mono ?_
  rintro e w' ⟨rfl, rfl⟩
  go_wp2_with fail
  refine (fmtInt_is (v := u / 1000000000 / 60 / 60) (l := 104 :: l3) (k := k3) (k' := k4) w (by have := K3.out; simp; omega) (by omega) (by omega) L4.out K4.out).mono ?_
  rintro e w' ⟨rfl, rfl⟩
  go_wp2
  go_ret
  exact ⟨rfl, rfl⟩

set_option maxRecDepth 100000 in
set_option maxHeartbeats 1000000 in
theorem format_h_neg (E : TypeId) (w : World) (u : Int) (l1 l2 l3 l4 : List UInt8) (k1 k2 k3 k4 : Nat) (h0 : 1000000000 ≤ u) (h1 : u ≤ 9223372036854775808) (L1 : Hid (frac u.toNat 9 ++ [115] = l1)) (K1 : Hid (l1.length + k1 = 32)) (L2 : Hid (dec (u / 1000000000 % 60).toNat ++ l1 = l2)) (K2 : Hid (l2.length + (k2 + 1) = 32)) (hm : 0 < u / 1000000000 / 60) (L3 : Hid (dec (u / 1000000000 / 60 % 60).toNat ++ (109 :: l2) = l3)) (K3 : Hid (l3.length + (k3 + 1) = 32)) (hh : 0 < u / 1000000000 / 60 / 60) (L4 : Hid (dec (u / 1000000000 / 60 / 60).toNat ++ (104 :: l3) = l4)) (K4 : Hid (l4.length + (k4 + 1) = 32)) :
    Calls Tryd.prog 36 #[.int .i64 (-u), .pointer (some ⟨w.heap.size, 0, none⟩)] (bw E 32 w []) fun e w' => e = .returned (.int .i64 (k4 : Int)) ∧ bw E 32 w (45 :: l4) = w' := by
  have hc1 := bw_cell (E := E) (n := 32) (w := w) (l := []) (k := 31) (by decide)
  have hf1 := bw_frozen (E := E) (n := 32) (w := w) (l := []) (k := 31)
  have hs1 : (bw E 32 w []).setCell ⟨w.heap.size, 31, none⟩ (Value.int .u8 115) = bw E 32 w [115] := bw_set 115 (by decide)
  have hk1 : (k1 : Int) ≤ 32 := by have := K1.out; omega
  have hk2 : (k2 : Int) ≤ 32 := by have := K2.out; omega
  have hi3 : (k2 : Int) < 32 := by have := K2.out; omega
  have hc3 := bw_cell (E := E) (n := 32) (w := w) (l := l2) (k := k2) (by have := K2.out; omega)
  have hf3 := bw_frozen (E := E) (n := 32) (w := w) (l := l2) (k := k2)
  have hs3 : (bw E 32 w l2).setCell ⟨w.heap.size, k2, none⟩ (Value.int .u8 109) = bw E 32 w (109 :: l2) := bw_set 109 (by have := K2.out; omega)
  have hk3 : (k3 : Int) ≤ 32 := by have := K3.out; omega
  have hi4 : (k3 : Int) < 32 := by have := K3.out; omega
  have hc4 := bw_cell (E := E) (n := 32) (w := w) (l := l3) (k := k3) (by have := K3.out; omega)
  have hf4 := bw_frozen (E := E) (n := 32) (w := w) (l := l3) (k := k3)
  have hs4 : (bw E 32 w l3).setCell ⟨w.heap.size, k3, none⟩ (Value.int .u8 104) = bw E 32 w (104 :: l3) := bw_set 104 (by have := K3.out; omega)
  have hk4 : (k4 : Int) ≤ 32 := by have := K4.out; omega
  have hw : IntKind.u64.wrap (-IntKind.u64.wrap (-u)) = u := by simp only [IntKind.wrap_u64]; omega
  have hi9 : (k4 : Int) < 32 := by have := K4.out; omega
  have hc9 := bw_cell (E := E) (n := 32) (w := w) (l := l4) (k := k4) (by have := K4.out; omega)
  have hf9 := bw_frozen (E := E) (n := 32) (w := w) (l := l4) (k := k4)
  have hs9 : (bw E 32 w l4).setCell ⟨w.heap.size, k4, none⟩ (Value.int .u8 45) = bw E 32 w (45 :: l4) := bw_set 45 (by have := K4.out; omega)
  go_enter Tryd.func36, Tryd.ntmps36
  go_wp2_with fail
  refine (fmtFrac_is (p := 9) (v' := u / 1000000000) (l := [115]) (k := 31) w (by decide) (by omega) (by omega) (by decide) (by simp) L1.out K1.out).mono ?_
  rintro e w' ⟨rfl, rfl⟩
  go_wp2_with fail
  refine (fmtInt_is (v := u / 1000000000 % 60) (k' := k2 + 1) w K1.out (by omega) (by omega) L2.out K2.out).mono ?_
  rintro e w' ⟨rfl, rfl⟩
  go_wp2_with fail
  refine (fmtInt_is (v := u / 1000000000 / 60 % 60) (l := 109 :: l2) (k := k2) (k' := k3 + 1) w (by have := K2.out; simp; omega) (by omega) (by omega) L3.out K3.out).mono ?_
  rintro e w' ⟨rfl, rfl⟩
  go_wp2_with fail
  refine (fmtInt_is (v := u / 1000000000 / 60 / 60) (l := 104 :: l3) (k := k3) (k' := k4 + 1) w (by have := K3.out; simp; omega) (by omega) (by omega) L4.out K4.out).mono ?_
  rintro e w' ⟨rfl, rfl⟩
  go_wp2
  go_ret
  exact ⟨rfl, rfl⟩

end Go.Proofs.YteejjhdfebhagaaDoor
