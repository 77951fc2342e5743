/- Contracts of time.fmtInt, time.fmtFrac and (time.Duration).format over a new row of bytes: they write the plain texts of StrPlain at its end. Conditions: the texts have room. -/
import Derived.Test.YteejjhdfebhagaaDoorRows
import Derived.WalkKit
import Derived.ProofKit
import Derived.OpenShut
import Derived.Lib.Hide
import Derived.Test.YteejjhdfebhagaaDoorStrPlain
namespace Go.Proofs.YteejjhdfebhagaaDoor
open Go.ChangeShapes Go.WideShapes Go.ChangeAt Go.RowKit
set_option linter.unusedVariables false

theorem fmtInt_pos (E : TypeId) (n k c v : Nat) (l : List UInt8) (w : World) (hk : l.length + k = n) (hn : n ≤ 1000) (hv : v < 18446744073709551616) (h0 : v ≠ 0) (hd : (digs v).length ≤ k) :
    Calls Tryd.prog 41 #[.slice (some ⟨w.heap.size, 0, none⟩) k c, .int .u64 (v : Int)] (bw E n w l) fun e w' => e = .returned (.int .i64 ((k - (digs v).length : Nat) : Int)) ∧ w' = bw E n w (digs v ++ l) := by
  have hv0 : 0 < v := by omega
  have HK := Lib.hid hk
  have HD := Lib.hid hd
  clear hk h0 hd
  go_enter Tryd.func41, Tryd.ntmps41
  go_wp2
  go_loopw [1, 5] (fun x p wr => ∃ (q j : Nat) (acc : List UInt8), q ≤ v ∧ digs v = digs q ++ acc ∧ acc.length + j = k ∧ x = .int .u64 (q : Int) ∧ p = .int .i64 (j : Int) ∧ wr = bw E n w (acc ++ l)) (fun x _ _ => (intOf x).toNat)
  case atStart => exact ⟨v, k, [], Nat.le_refl _, by simp, by simp, rfl, rfl, rfl⟩
  case round =>
    obtain ⟨q, j, acc, hq, hdv, hacc, rfl, rfl, rfl⟩ := hrel
    have hjk : j ≤ k := by omega
    have hkn : k ≤ n := by have := HK.out; omega
    have HA := Lib.hid hacc
    clear hacc
    by_cases h : q = 0
    · subst h
      have hdv' : digs v = acc := by rw [hdv, digs_zero]; rfl
      have H := Lib.hid hdv'
      clear hdv hdv'
      go_wp2
      go_ret
      rw [H.out]
      have : k - acc.length = j := by have := HA.out; omega
      rw [this]
      exact ⟨rfl, rfl⟩
    · have hq0 : 0 < q := by omega
      have hlen : ∃ i, j = i + 1 := by
        have h1 := HD.out
        have h2 := HA.out
        rw [hdv, digs_pos h] at h1
        simp at h1
        exact ⟨j - 1, by omega⟩
      obtain ⟨i, rfl⟩ := hlen
      have hdv' : digs v = digs (q / 10) ++ (dg q :: acc) := by rw [hdv, digs_pos h]; simp
      have H := Lib.hid hdv'
      have hc := bw_cell (E := E) (n := n) (w := w) (l := acc ++ l) (k := i) (by have := HK.out; have := HA.out; simp; omega)
      have hf := bw_frozen (E := E) (n := n) (w := w) (l := acc ++ l) (k := i)
      clear hdv hdv' h
      go_wp2
      go_roundw
      case rel =>
        refine ⟨q / 10, i, dg q :: acc, by omega, H.out, by have := HA.out; simp; omega, by go_num, by go_num, ?_⟩
        have e : (Value.int .u8 ((q : Int) % 10 + 48)) = Value.int .u8 (((dg q).toNat : Nat) : Int) := by rw [dg_toNat]; congr 1; omega
        rw [e]
        exact bw_set (dg q) (by have := HK.out; have := HA.out; simp; omega)
      case measure => simp [intOf]; omega

theorem fmtInt_zero (E : TypeId) (n k c : Nat) (l : List UInt8) (w : World) (hk : l.length + (k + 1) = n) (hn : n ≤ 1000) :
    Calls Tryd.prog 41 #[.slice (some ⟨w.heap.size, 0, none⟩) (k + 1) c, .int .u64 0] (bw E n w l) fun e w' => e = .returned (.int .i64 (k : Int)) ∧ w' = bw E n w (48 :: l) := by
  have hc := bw_cell (E := E) (n := n) (w := w) (l := l) (k := k) (by omega)
  have hf := bw_frozen (E := E) (n := n) (w := w) (l := l) (k := k)
  have hkn : k ≤ n := by omega
  have HK := Lib.hid hk
  clear hk
  go_enter Tryd.func41, Tryd.ntmps41
  go_wp2
  go_ret
  exact ⟨rfl, bw_set 48 (by have := HK.out; omega)⟩

theorem fmtInt_any (E : TypeId) (n k c v : Nat) (l : List UInt8) (w : World) (hk : l.length + k = n) (hn : n ≤ 1000) (hv : v < 18446744073709551616) (hd : (dec v).length ≤ k) :
    Calls Tryd.prog 41 #[.slice (some ⟨w.heap.size, 0, none⟩) k c, .int .u64 (v : Int)] (bw E n w l) fun e w' => e = .returned (.int .i64 ((k - (dec v).length : Nat) : Int)) ∧ w' = bw E n w (dec v ++ l) := by
  by_cases h0 : v = 0
  · subst h0
    obtain ⟨j, rfl⟩ : ∃ j, k = j + 1 := ⟨k - 1, by simp [dec] at hd; omega⟩
    exact fmtInt_zero E n j c l w hk hn
  · have e : dec v = digs v := by unfold dec; rw [if_neg h0]
    rw [e] at hd ⊢
    exact fmtInt_pos E n k c v l w hk hn hv h0 hd

theorem frs_step_yes {v i q : Nat} (hq : v / 10 ^ i = q) (h : frs v i ≠ [] ∨ q % 10 ≠ 0) : frs v (i + 1) = dg q :: frs v i := by
  rw [frs, hq]
  rw [if_neg (by intro hh; rcases h with h | h; exact h hh.1; exact h hh.2)]
theorem frs_step_no {v i q : Nat} (hq : v / 10 ^ i = q) (h : frs v i = []) (h2 : q % 10 = 0) : frs v (i + 1) = [] := by
  rw [frs, hq, if_pos ⟨h, h2⟩]
theorem div_step {v i q : Nat} (hq : v / 10 ^ i = q) : v / 10 ^ (i + 1) = q / 10 := by
  rw [Nat.pow_succ, ← Nat.div_div_eq_div_mul, hq]

set_option maxHeartbeats 1000000 in
theorem fmtFrac_any (E : TypeId) (n k c v p : Nat) (l : List UInt8) (w : World) (hk : l.length + k = n) (hn : n ≤ 1000) (hv : v < 18446744073709551616) (hp : p + 1 ≤ k) :
    Calls Tryd.prog 40 #[.slice (some ⟨w.heap.size, 0, none⟩) k c, .int .u64 (v : Int), .int .i64 (p : Int)] (bw E n w l) fun e w' => e = .returned (.tuple #[.int .i64 ((k - (frac v p).length : Nat) : Int), .int .u64 ((v / 10 ^ p : Nat) : Int)]) ∧ w' = bw E n w (frac v p ++ l) := by
  have HK := Lib.hid hk
  have hkn : k ≤ n := by omega
  clear hk
  go_enter Tryd.func40, Tryd.ntmps40
  go_wp2
  go_loopw [1, 8, 9, 10, 11] (fun x1 x8 x9 x10 x11 wr => ∃ (i j q : Nat) (b : Bool), i ≤ p ∧ q ≤ v ∧ v / 10 ^ i = q ∧ (frs v i).length + j = k ∧ b = !(frs v i).isEmpty ∧ x1 = .int .u64 (q : Int) ∧ x8 = .int .i64 (j : Int) ∧ x9 = .bool b ∧ x10 = .int .i64 (i : Int) ∧ wr = bw E n w (frs v i ++ l)) (fun _ _ _ x10 _ _ => p - (intOf x10).toNat)
  case atStart => exact ⟨0, k, v, false, Nat.zero_le _, Nat.le_refl _, by simp, by simp [frs], rfl, rfl, rfl, rfl, rfl, rfl⟩
  case round =>
    obtain ⟨i, j, q, b, hip, hqv, hq, hj, hb, rfl, rfl, rfl, rfl, rfl⟩ := hrel
    have hfl := frs_len v i
    have hjk : j ≤ k := by omega
    have HQ := Lib.hid hq
    have HJ := Lib.hid hj
    have HB := Lib.hid hb
    have HF := Lib.hid hfl
    clear hq hj hb hfl
    by_cases hlt : i < p
    · obtain ⟨t, rfl⟩ : ∃ t, j = t + 1 := ⟨j - 1, by have := HJ.out; have := HF.out; omega⟩
      have hc := bw_cell (E := E) (n := n) (w := w) (l := frs v i ++ l) (k := t) (by have := HK.out; have := HJ.out; simp; omega)
      have hf := bw_frozen (E := E) (n := n) (w := w) (l := frs v i ++ l) (k := t)
      have e : (Value.int .u8 ((q : Int) % 10 + 48)) = Value.int .u8 (((dg q).toNat : Nat) : Int) := by rw [dg_toNat]; congr 1; omega
      have HE := Lib.hid e
      clear e
      cases b
      · by_cases hz : q % 10 = 0
        · have hn0 : frs v i = [] := by have := HB.out; simpa using this
          have HS := Lib.hid (frs_step_no HQ.out hn0 hz)
          have HN := Lib.hid hn0
          have hz' : ((q : Int) % 10 == 0) = true := by simp; omega
          clear hn0 hz
          go_wp2
          go_roundw
          case rel =>
            refine ⟨i + 1, t + 1, q / 10, false, by omega, by omega, div_step HQ.out, ?_, ?_, by go_num, by go_num, by rw [bne, hz']; rfl, by go_num, ?_⟩
            · have := HJ.out; rw [HN.out] at this; rw [HS.out]; exact this
            · rw [HS.out]; rfl
            · rw [HS.out, HN.out]
          case measure => simp [intOf]; omega
        · have HS := Lib.hid (frs_step_yes HQ.out (Or.inr hz))
          have hz' : ((q : Int) % 10 == 0) = false := by simp; omega
          clear hz
          go_wp2
          go_roundw
          case rel =>
            refine ⟨i + 1, t, q / 10, true, by omega, by omega, div_step HQ.out, ?_, ?_, by go_num, by go_num, by rw [bne, hz']; rfl, by go_num, ?_⟩
            · have := HJ.out; rw [HS.out]; simp; omega
            · rw [HS.out]; rfl
            · rw [HS.out, HE.out]
              exact bw_set (dg q) (by have := HK.out; have := HJ.out; simp; omega)
          case measure => simp [intOf]; omega
      · have hn0 : frs v i ≠ [] := by have := HB.out; simpa using this
        have HS := Lib.hid (frs_step_yes HQ.out (Or.inl hn0))
        clear hn0
        go_wp2
        go_roundw
        case rel =>
          refine ⟨i + 1, t, q / 10, true, by omega, by omega, div_step HQ.out, ?_, ?_, by go_num, by go_num, rfl, by go_num, ?_⟩
          · have := HJ.out; rw [HS.out]; simp; omega
          · rw [HS.out]; rfl
          · rw [HS.out, HE.out]
            exact bw_set (dg q) (by have := HK.out; have := HJ.out; simp; omega)
        case measure => simp [intOf]; omega
    · have hi : i = p := by omega
      subst hi
      clear hlt
      cases b
      · have hn0 : frs v i = [] := by have := HB.out; simpa using this
        have HN := Lib.hid hn0
        clear hn0
        go_wp2
        go_ret2
        have hfr : frac v i = [] := by unfold frac; rw [if_pos HN.out]
        have hj0 : j = k := by have := HJ.out; rw [HN.out] at this; simpa using this
        rw [hfr, HN.out, HQ.out, hj0]
        exact ⟨rfl, rfl⟩
      · have hn0 : frs v i ≠ [] := by have := HB.out; simpa using this
        have HN := Lib.hid hn0
        clear hn0
        obtain ⟨t, rfl⟩ : ∃ t, j = t + 1 := ⟨j - 1, by have := HJ.out; have := HF.out; omega⟩
        have hc := bw_cell (E := E) (n := n) (w := w) (l := frs v i ++ l) (k := t) (by have := HK.out; have := HJ.out; simp; omega)
        have hf := bw_frozen (E := E) (n := n) (w := w) (l := frs v i ++ l) (k := t)
        go_wp2
        go_ret2
        have hfr : frac v i = 46 :: frs v i := by unfold frac; rw [if_neg HN.out]
        have hj0 : k - (frac v i).length = t := by have := HJ.out; rw [hfr]; simp; omega
        rw [hj0, hfr, HQ.out]
        exact ⟨rfl, bw_set 46 (by have := HK.out; have := HJ.out; simp; omega)⟩

end Go.Proofs.YteejjhdfebhagaaDoor
