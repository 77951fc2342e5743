/- Plain texts: decimal digits, a fraction without zeros at its end, and the text of a duration; no program in sight. -/
import Derived.WalkKit
namespace Go.Proofs.YteejjhdfebhagaaDoor

/-- the last digit of a number, as a byte -/
def dg (n : Nat) : UInt8 := UInt8.ofNat (48 + n % 10)

theorem dg_toNat (n : Nat) : (dg n).toNat = 48 + n % 10 := by
  unfold dg
  rw [UInt8.toNat_ofNat']
  omega

/-- the digits of a number; none for 0 -/
def digs (n : Nat) : List UInt8 := if n = 0 then [] else digs (n / 10) ++ [dg n]
termination_by n
decreasing_by omega

theorem digs_zero : digs 0 = [] := by rw [digs]; rfl
theorem digs_pos {n : Nat} (h : n ≠ 0) : digs n = digs (n / 10) ++ [dg n] := by rw [digs, if_neg h]

/-- a number in decimal -/
def dec (n : Nat) : List UInt8 := if n = 0 then [48] else digs n

theorem digs_len (k n : Nat) (h : n < 10 ^ k) : (digs n).length ≤ k := by
  induction k generalizing n with
  | zero =>
    have : n = 0 := by simpa using h
    subst this; rw [digs_zero]; exact Nat.le_refl _
  | succ k ih =>
    by_cases h0 : n = 0
    · subst h0; rw [digs_zero]; exact Nat.zero_le _
    · rw [digs_pos h0, List.length_append]
      have := ih (n / 10) (by rw [Nat.pow_succ] at h; omega)
      simp only [List.length_cons, List.length_nil]
      omega

theorem dec_len {k n : Nat} (hk : 1 ≤ k) (h : n < 10 ^ k) : (dec n).length ≤ k := by
  unfold dec
  split
  · simpa using hk
  · exact digs_len k n h

theorem dec_pos_len (n : Nat) : 1 ≤ (dec n).length := by
  unfold dec
  split
  · exact Nat.le_refl _
  · rename_i h; rw [digs_pos h, List.length_append]; simp

/-- the last i digits of a number without the zeros at their end -/
def frs (v : Nat) : Nat → List UInt8
  | 0 => []
  | i + 1 => if frs v i = [] ∧ v / 10 ^ i % 10 = 0 then [] else dg (v / 10 ^ i) :: frs v i

theorem frs_len (v i : Nat) : (frs v i).length ≤ i := by
  induction i with
  | zero => exact Nat.le_refl _
  | succ i ih =>
    unfold frs
    split
    · exact Nat.zero_le _
    · simpa using ih

/-- the fraction with its point, or nothing -/
def frac (v i : Nat) : List UInt8 := if frs v i = [] then [] else 46 :: frs v i

theorem frac_len (v i : Nat) : (frac v i).length ≤ i + 1 := by
  unfold frac
  split
  · exact Nat.zero_le _
  · simpa using frs_len v i

/-- the text of a size in nanoseconds -/
def strU (u : Nat) : List UInt8 :=
  if u = 0 then [48, 115]
  else if u < 1000 then dec u ++ [110, 115]
  else if u < 1000000 then dec (u / 1000) ++ (frac u 3 ++ [194, 181, 115])
  else if u < 1000000000 then dec (u / 1000000) ++ (frac u 6 ++ [109, 115])
  else
    let s := u / 1000000000
    let m := s / 60
    let h := m / 60
    (if h = 0 then [] else dec h ++ [104]) ++ ((if m = 0 then [] else dec (m % 60) ++ [109]) ++ (dec (s % 60) ++ (frac u 9 ++ [115])))

/-- the text of a duration -/
def str (d : Int) : List UInt8 := if d < 0 then 45 :: strU d.natAbs else strU d.natAbs

/-- the cells of a row of n bytes whose last ones are l and whose others are 0 -/
def tail (n : Nat) (l : List UInt8) : Array Value := (List.replicate (n - l.length) (Value.int .u8 0) ++ l.map fun b => Value.int .u8 (b.toNat : Int)).toArray

theorem tail_size {n : Nat} {l : List UInt8} (h : l.length ≤ n) : (tail n l).size = n := by
  unfold tail; simp; omega

theorem tail_get {n : Nat} {l : List UInt8} {k : Nat} (h : k < n - l.length) : (tail n l)[k]? = some (Value.int .u8 0) := by
  unfold tail
  rw [List.getElem?_toArray, List.getElem?_append_left (by simpa using h), List.getElem?_replicate, if_pos h]

theorem tail_set {n : Nat} {l : List UInt8} {k : Nat} (b : UInt8) (h : l.length + k + 1 = n) :
    (tail n l).setIfInBounds k (Value.int .u8 (b.toNat : Int)) = tail n (b :: l) := by
  unfold tail
  rw [List.setIfInBounds_toArray]
  congr 1
  have e : n - l.length = k + 1 := by omega
  have e2 : n - (b :: l).length = k := by simp; omega
  rw [e, e2, List.replicate_succ', List.append_assoc, List.map_cons]
  rw [List.set_append_right _ _ (by simp)]
  simp

/-- a world with a new row of n bytes, the last ones l -/
def bw (E : TypeId) (n : Nat) (w : World) (l : List UInt8) : World := w.alloc (.cells (tail n l) E)

theorem bw_cell {E : TypeId} {n : Nat} {w : World} {l : List UInt8} {k : Nat} (h : k < n - l.length) : (bw E n w l).cell? ⟨w.heap.size, k, none⟩ = some (Value.int .u8 0) := by
  unfold bw
  rw [World.cell?_alloc_at _ _ _ _ rfl]
  exact tail_get h

theorem bw_frozen {E : TypeId} {n : Nat} {w : World} {l : List UInt8} {k : Nat} : (bw E n w l).frozen? ⟨w.heap.size, k, none⟩ = false := by
  unfold bw
  exact World.frozen?_alloc_at _ _ _ _ rfl

theorem bw_set {E : TypeId} {n : Nat} {w : World} {l : List UInt8} {k : Nat} (b : UInt8) (h : l.length + k + 1 = n) :
    (bw E n w l).setCell ⟨w.heap.size, k, none⟩ (Value.int .u8 (b.toNat : Int)) = bw E n w (b :: l) := by
  unfold bw
  rw [World.setCell_alloc_at _ _ _ _ _ rfl, tail_set b h]

end Go.Proofs.YteejjhdfebhagaaDoor
