/- The contract of time.fmtInt over a new row of bytes: it writes the decimal text at its end. Condition: the text has room. -/
import Derived.Test.YtabnabpiiknelaaDoorRows
import Derived.WalkKit
import Derived.ProofKit
import Derived.OpenShut
import Derived.Lib.Hide
import Derived.Test.YtabnabpiiknelaaDoorStrPlain
namespace Go.Proofs.YtabnabpiiknelaaDoor
open Go.ChangeShapes Go.WideShapes Go.ChangeAt Go.RowKit
set_option linter.unusedVariables false

theorem fmtInt_pos (E : TypeId) (n k c v : Nat) (l : List UInt8) (w : World) (hk : l.length + k = n) (hn : n ≤ 1000) (hv : v < 18446744073709551616) (h0 : v ≠ 0) (hd : (digs v).length ≤ k) :
    Calls Tryd.prog 13 #[.slice (some ⟨w.heap.size, 0, none⟩) k c, .int .u64 (v : Int)] (bw E n w l) fun e w' => e = .returned (.int .i64 ((k - (digs v).length : Nat) : Int)) ∧ w' = bw E n w (digs v ++ l) := by
  have hv0 : 0 < v := by omega
  have HK := Lib.hid hk
  have HD := Lib.hid hd
  clear hk h0 hd
  go_enter Tryd.func13, Tryd.ntmps13
  go_wp2
  go_loopw [1, 5] (fun x p wr => ∃ (q j : Nat) (acc : List UInt8), q ≤ v ∧ digs v = digs q ++ acc ∧ acc.length + j = k ∧ x = .int .u64 (q : Int) ∧ p = .int .i64 (j : Int) ∧ wr = bw E n w (acc ++ l)) (fun x _ _ => (intOf x).toNat)
  case atStart => exact ⟨v, k, [], Nat.le_refl _, by simp, by simp, rfl, rfl, rfl⟩
  case round =>
    obtain ⟨q, j, acc, hq, hdv, hacc, rfl, rfl, rfl⟩ := hrel
    have hjk : j ≤ k := by omega
    have hkn : k ≤ n := by have := HK.out; omega
    have HA := Lib.hid hacc
    clear hacc
    by_cases h : q = 0
    · subst h
      have hdv' : digs v = acc := by rw [hdv, digs_zero]; rfl
      have H := Lib.hid hdv'
      clear hdv hdv'
      go_wp2
      go_ret
      rw [H.out]
      have : k - acc.length = j := by have := HA.out; omega
      rw [this]
      exact ⟨rfl, rfl⟩
    · have hq0 : 0 < q := by omega
      have hlen : ∃ i, j = i + 1 := by
        have h1 := HD.out
        have h2 := HA.out
        rw [hdv, digs_pos h] at h1
        simp at h1
        exact ⟨j - 1, by omega⟩
      obtain ⟨i, rfl⟩ := hlen
      have hdv' : digs v = digs (q / 10) ++ (dg q :: acc) := by rw [hdv, digs_pos h]; simp
      have H := Lib.hid hdv'
      have hc := bw_cell (E := E) (n := n) (w := w) (l := acc ++ l) (k := i) (by have := HK.out; have := HA.out; simp; omega)
      have hf := bw_frozen (E := E) (n := n) (w := w) (l := acc ++ l) (k := i)
      clear hdv hdv' h
      go_wp2
      go_roundw
      case rel =>
        refine ⟨q / 10, i, dg q :: acc, by omega, H.out, by have := HA.out; simp; omega, by go_num, by go_num, ?_⟩
        have e : (Value.int .u8 ((q : Int) % 10 + 48)) = Value.int .u8 (((dg q).toNat : Nat) : Int) := by rw [dg_toNat]; congr 1; omega
        rw [e]
        exact bw_set (dg q) (by have := HK.out; have := HA.out; simp; omega)
      case measure => simp [intOf]; omega

theorem fmtInt_zero (E : TypeId) (n k c : Nat) (l : List UInt8) (w : World) (hk : l.length + (k + 1) = n) (hn : n ≤ 1000) :
    Calls Tryd.prog 13 #[.slice (some ⟨w.heap.size, 0, none⟩) (k + 1) c, .int .u64 0] (bw E n w l) fun e w' => e = .returned (.int .i64 (k : Int)) ∧ w' = bw E n w (48 :: l) := by
  have hc := bw_cell (E := E) (n := n) (w := w) (l := l) (k := k) (by omega)
  have hf := bw_frozen (E := E) (n := n) (w := w) (l := l) (k := k)
  have hkn : k ≤ n := by omega
  have HK := Lib.hid hk
  clear hk
  go_enter Tryd.func13, Tryd.ntmps13
  go_wp2
  go_ret
  exact ⟨rfl, bw_set 48 (by have := HK.out; omega)⟩

theorem fmtInt_any (E : TypeId) (n k c v : Nat) (l : List UInt8) (w : World) (hk : l.length + k = n) (hn : n ≤ 1000) (hv : v < 18446744073709551616) (hd : (dec v).length ≤ k) :
    Calls Tryd.prog 13 #[.slice (some ⟨w.heap.size, 0, none⟩) k c, .int .u64 (v : Int)] (bw E n w l) fun e w' => e = .returned (.int .i64 ((k - (dec v).length : Nat) : Int)) ∧ w' = bw E n w (dec v ++ l) := by
  by_cases h0 : v = 0
  · subst h0
    obtain ⟨j, rfl⟩ : ∃ j, k = j + 1 := ⟨k - 1, by simp [dec] at hd; omega⟩
    exact fmtInt_zero E n j c l w hk hn
  · have e : dec v = digs v := by unfold dec; rw [if_neg h0]
    rw [e] at hd ⊢
    exact fmtInt_pos E n k c v l w hk hn hv h0 hd

end Go.Proofs.YtabnabpiiknelaaDoor
