/- (time.Duration).format, (time.Duration).String and impl.String put together: for every int64 they give the plain text str d. -/
import Derived.Test.YteejjhdfebhagaaDoorFormatW
namespace Go.Proofs.YteejjhdfebhagaaDoor
open Go.ChangeShapes Go.WideShapes Go.ChangeAt Go.RowKit
set_option linter.unusedVariables false

theorem strU_len {u : Nat} (h : u ≤ 9223372036854775808) : 2 ≤ (strU u).length ∧ (strU u).length ≤ 24 := by
  have d1 := dec_pos_len
  unfold strU
  split
  · decide
  · split
    · have := dec_len (k := 3) (n := u) (by omega) (by omega)
      have := d1 u
      simp; omega
    · split
      · have := dec_len (k := 3) (n := u / 1000) (by omega) (by omega)
        have := frac_len u 3
        have := d1 (u / 1000)
        simp; omega
      · split
        · have := dec_len (k := 3) (n := u / 1000000) (by omega) (by omega)
          have := frac_len u 6
          have := d1 (u / 1000000)
          simp; omega
        · dsimp only
          have a1 := dec_len (k := 2) (n := u / 1000000000 % 60) (by omega) (by omega)
          have a2 := dec_len (k := 2) (n := u / 1000000000 / 60 % 60) (by omega) (by omega)
          have a3 := dec_len (k := 7) (n := u / 1000000000 / 60 / 60) (by omega) (by omega)
          have a4 := frac_len u 9
          have a5 := d1 (u / 1000000000 % 60)
          split <;> split <;> simp <;> omega

theorem natAbs_le {d : Int} (h1 : -9223372036854775808 ≤ d) (h2 : d ≤ 9223372036854775807) : d.natAbs ≤ 9223372036854775808 := by omega

theorem str_len {d : Int} (h1 : -9223372036854775808 ≤ d) (h2 : d ≤ 9223372036854775807) : 2 ≤ (str d).length ∧ (str d).length ≤ 25 := by
  have := strU_len (natAbs_le h1 h2)
  unfold str
  split
  · simp; omega
  · omega

/-- how the text of a size comes about, piece by piece -/
theorem strU_ns {u : Nat} (h0 : 1 ≤ u) (h1 : u < 1000) : strU u = dec u ++ (frac u 0 ++ [110, 115]) := by
  unfold strU
  rw [if_neg (by omega), if_pos h1]; rfl
theorem strU_us {u : Nat} (h0 : 1000 ≤ u) (h1 : u < 1000000) : strU u = dec (u / 1000) ++ (frac u 3 ++ [194, 181, 115]) := by
  unfold strU
  rw [if_neg (by omega), if_neg (by omega), if_pos h1]
theorem strU_ms {u : Nat} (h0 : 1000000 ≤ u) (h1 : u < 1000000000) : strU u = dec (u / 1000000) ++ (frac u 6 ++ [109, 115]) := by
  unfold strU
  rw [if_neg (by omega), if_neg (by omega), if_neg (by omega), if_pos h1]
theorem strU_s {u : Nat} (h0 : 1000000000 ≤ u) (hm : u / 1000000000 / 60 = 0) : strU u = dec (u / 1000000000 % 60) ++ (frac u 9 ++ [115]) := by
  unfold strU
  rw [if_neg (by omega), if_neg (by omega), if_neg (by omega), if_neg (by omega)]
  dsimp only
  rw [if_pos hm, if_pos (by omega)]; rfl
theorem strU_m {u : Nat} (h0 : 1000000000 ≤ u) (hm : u / 1000000000 / 60 ≠ 0) (hh : u / 1000000000 / 60 / 60 = 0) : strU u = dec (u / 1000000000 / 60 % 60) ++ (109 :: (dec (u / 1000000000 % 60) ++ (frac u 9 ++ [115]))) := by
  unfold strU
  rw [if_neg (by omega), if_neg (by omega), if_neg (by omega), if_neg (by omega)]
  dsimp only
  rw [if_neg hm, if_pos hh]; simp
theorem strU_h {u : Nat} (h0 : 1000000000 ≤ u) (hm : u / 1000000000 / 60 ≠ 0) (hh : u / 1000000000 / 60 / 60 ≠ 0) : strU u = dec (u / 1000000000 / 60 / 60) ++ (104 :: (dec (u / 1000000000 / 60 % 60) ++ (109 :: (dec (u / 1000000000 % 60) ++ (frac u 9 ++ [115]))))) := by
  unfold strU
  rw [if_neg (by omega), if_neg (by omega), if_neg (by omega), if_neg (by omega)]
  dsimp only
  rw [if_neg hm, if_neg hh]; simp

theorem format_any (E : TypeId) (w : World) {d : Int} (h1 : -9223372036854775808 ≤ d) (h2 : d ≤ 9223372036854775807) :
    ∃ k : Nat, (str d).length + k = 32 ∧ Calls Tryd.prog 36 #[.int .i64 d, .pointer (some ⟨w.heap.size, 0, none⟩)] (bw E 32 w []) fun e w' => e = .returned (.int .i64 (k : Int)) ∧ bw E 32 w (str d) = w' := by
  have hlen := str_len h1 h2
  refine ⟨32 - (str d).length, by omega, ?_⟩
  by_cases hz : d = 0
  · subst hz
    have e : str 0 = [48, 115] := by decide +kernel
    rw [e]
    exact format_zero E w
  obtain ⟨n, hn⟩ : ∃ n : Nat, n = d.natAbs := ⟨_, rfl⟩
  have hn0 : 1 ≤ n := by omega
  have hnb : n ≤ 9223372036854775808 := by omega
  have hu := strU_len hnb
  have fl := frac_len n
  by_cases hd : d < 0
  · have ed : d = -(n : Int) := by omega
    have es : str d = 45 :: strU n := by unfold str; rw [if_pos hd, hn]
    rw [es] at hlen ⊢
    rw [ed]
    generalize hk : 32 - (45 :: strU n).length = k
    have hk' : (strU n).length + (k + 1) = 32 := by simp at hk hlen; omega
    by_cases c1 : n < 1000
    · have e := strU_ns hn0 c1
      rw [e] at hk' ⊢
      exact format_ns_neg E w n _ _ (32 - (frac n 0 ++ [110, 115]).length) k (by omega) (by omega) (by rw [Int.toNat_natCast]; exact rfl) (show _ + _ = 32 by simp at hk' ⊢; omega) (show _ ++ _ = _ by rw [Int.ediv_one, Int.toNat_natCast]) hk'
    · by_cases c2 : n < 1000000
      · have e := strU_us (by omega) c2
        rw [e] at hk' ⊢
        exact format_us_neg E w n _ _ (32 - (frac n 3 ++ [194, 181, 115]).length) k (by omega) (by omega) (by rw [Int.toNat_natCast]; exact rfl) (show _ + _ = 32 by simp at hk' ⊢; omega) rfl hk'
      · by_cases c3 : n < 1000000000
        · have e := strU_ms (by omega) c3
          rw [e] at hk' ⊢
          exact format_ms_neg E w n _ _ (32 - (frac n 6 ++ [109, 115]).length) k (by omega) (by omega) (by rw [Int.toNat_natCast]; exact rfl) (show _ + _ = 32 by simp at hk' ⊢; omega) rfl hk'
        · by_cases c4 : n / 1000000000 / 60 = 0
          · have e := strU_s (by omega) c4
            rw [e] at hk' ⊢
            exact format_s_neg E w n _ _ (32 - (frac n 9 ++ [115]).length) k (by omega) (by omega) (by rw [Int.toNat_natCast]; exact rfl) (show _ + _ = 32 by simp at hk' ⊢; omega) rfl hk' (by omega)
          · by_cases c5 : n / 1000000000 / 60 / 60 = 0
            · have e := strU_m (by omega) c4 c5
              rw [e] at hk' ⊢
              exact format_m_neg E w n (frac n 9 ++ [115]) (dec (n / 1000000000 % 60) ++ (frac n 9 ++ [115])) _ (32 - (frac n 9 ++ [115]).length) (31 - (dec (n / 1000000000 % 60) ++ (frac n 9 ++ [115])).length) k (by omega) (by omega) (by rw [Int.toNat_natCast]; exact rfl) (show _ + _ = 32 by simp at hk' ⊢; omega) rfl (show _ + _ = 32 by simp at hk' ⊢; omega) (by omega) rfl hk' (by omega)
            · have e := strU_h (by omega) c4 c5
              rw [e] at hk' ⊢
              exact format_h_neg E w n (frac n 9 ++ [115]) (dec (n / 1000000000 % 60) ++ (frac n 9 ++ [115])) (dec (n / 1000000000 / 60 % 60) ++ (109 :: (dec (n / 1000000000 % 60) ++ (frac n 9 ++ [115])))) _ (32 - (frac n 9 ++ [115]).length) (31 - (dec (n / 1000000000 % 60) ++ (frac n 9 ++ [115])).length) (31 - (dec (n / 1000000000 / 60 % 60) ++ (109 :: (dec (n / 1000000000 % 60) ++ (frac n 9 ++ [115])))).length) k (by omega) (by omega) (by rw [Int.toNat_natCast]; exact rfl) (show _ + _ = 32 by simp at hk' ⊢; omega) rfl (show _ + _ = 32 by simp at hk' ⊢; omega) (by omega) rfl (show _ + _ = 32 by simp at hk' ⊢; omega) (by omega) rfl hk'
  · have ed : d = (n : Int) := by omega
    have es : str d = strU n := by unfold str; rw [if_neg hd, hn]
    rw [es] at hlen ⊢
    rw [ed]
    generalize hk : 32 - (strU n).length = k
    have hk' : (strU n).length + k = 32 := by omega
    by_cases c1 : n < 1000
    · have e := strU_ns hn0 c1
      rw [e] at hk' ⊢
      exact format_ns E w n _ _ (32 - (frac n 0 ++ [110, 115]).length) k (by omega) (by omega) (by rw [Int.toNat_natCast]; exact rfl) (show _ + _ = 32 by simp at hk' ⊢; omega) (show _ ++ _ = _ by rw [Int.ediv_one, Int.toNat_natCast]) hk'
    · by_cases c2 : n < 1000000
      · have e := strU_us (by omega) c2
        rw [e] at hk' ⊢
        exact format_us E w n _ _ (32 - (frac n 3 ++ [194, 181, 115]).length) k (by omega) (by omega) (by rw [Int.toNat_natCast]; exact rfl) (show _ + _ = 32 by simp at hk' ⊢; omega) rfl hk'
      · by_cases c3 : n < 1000000000
        · have e := strU_ms (by omega) c3
          rw [e] at hk' ⊢
          exact format_ms E w n _ _ (32 - (frac n 6 ++ [109, 115]).length) k (by omega) (by omega) (by rw [Int.toNat_natCast]; exact rfl) (show _ + _ = 32 by simp at hk' ⊢; omega) rfl hk'
        · by_cases c4 : n / 1000000000 / 60 = 0
          · have e := strU_s (by omega) c4
            rw [e] at hk' ⊢
            exact format_s E w n _ _ (32 - (frac n 9 ++ [115]).length) k (by omega) (by omega) (by rw [Int.toNat_natCast]; exact rfl) (show _ + _ = 32 by simp at hk' ⊢; omega) rfl hk' (by omega)
          · by_cases c5 : n / 1000000000 / 60 / 60 = 0
            · have e := strU_m (by omega) c4 c5
              rw [e] at hk' ⊢
              exact format_m E w n (frac n 9 ++ [115]) (dec (n / 1000000000 % 60) ++ (frac n 9 ++ [115])) _ (32 - (frac n 9 ++ [115]).length) (31 - (dec (n / 1000000000 % 60) ++ (frac n 9 ++ [115])).length) k (by omega) (by omega) (by rw [Int.toNat_natCast]; exact rfl) (show _ + _ = 32 by simp at hk' ⊢; omega) rfl (show _ + _ = 32 by simp at hk' ⊢; omega) (by omega) rfl hk' (by omega)
            · have e := strU_h (by omega) c4 c5
              rw [e] at hk' ⊢
              exact format_h E w n (frac n 9 ++ [115]) (dec (n / 1000000000 % 60) ++ (frac n 9 ++ [115])) (dec (n / 1000000000 / 60 % 60) ++ (109 :: (dec (n / 1000000000 % 60) ++ (frac n 9 ++ [115])))) _ (32 - (frac n 9 ++ [115]).length) (31 - (dec (n / 1000000000 % 60) ++ (frac n 9 ++ [115])).length) (31 - (dec (n / 1000000000 / 60 % 60) ++ (109 :: (dec (n / 1000000000 % 60) ++ (frac n 9 ++ [115])))).length) k (by omega) (by omega) (by rw [Int.toNat_natCast]; exact rfl) (show _ + _ = 32 by simp at hk' ⊢; omega) rfl (show _ + _ = 32 by simp at hk' ⊢; omega) (by omega) rfl (show _ + _ = 32 by simp at hk' ⊢; omega) (by omega) rfl hk'

theorem cells_tail (l : List UInt8) (n j : Nat) (v : Value) (h : (l.map fun b => Value.int .u8 (b.toNat : Int))[j]? = some v) (hl : l.length ≤ n) : (tail n l)[n - l.length + j]? = some v := by
  unfold tail
  rw [List.getElem?_toArray, List.getElem?_append_right (by simp)]
  simpa using h

theorem foldl_push (ns : List UInt8) (r : ByteArray) : (ns.map fun b => (b.toNat : Int)).foldl (fun r n => r.push (UInt8.ofNat n.toNat)) r = ⟨r.data ++ ns.toArray⟩ := by
  induction ns generalizing r with
  | nil => simp
  | cons b ns ih =>
    rw [List.map_cons, List.foldl_cons, ih]
    rw [Int.toNat_natCast, UInt8.ofNat_toNat]
    simp [ByteArray.push]

/-- The bytes at a row's end as a string. -/
theorem tail_string {E : TypeId} (w : World) (n k c : Nat) (l : List UInt8) (hk : l.length + k = n) :
    (convert 53 9 (.slice (some ⟨w.heap.size, k, none⟩) l.length c)).run Tryd.prog (bw E n w l) = .ok (.string ⟨l.toArray⟩) (bw E n w l) := by
  rw [run_convert_bytes_string _ _ _ 5 _ _ _ Tryd.underlying53 Tryd.underlying5 Tryd.underlying9]
  have hl := run_loadCells_list (P := Tryd.prog) (w := bw E n w l) ⟨w.heap.size, k, none⟩ (l.map fun b => Value.int .u8 (b.toNat : Int)) (by
    intro j v hj
    have hadd : (⟨w.heap.size, k, none⟩ : Addr).add j = ⟨w.heap.size, k + j, none⟩ := by unfold Addr.add; split <;> simp_all
    rw [hadd]
    unfold bw
    rw [World.cell?_alloc_at _ _ _ _ rfl]
    have := cells_tail l n j v hj (by omega)
    rwa [show n - l.length = k by omega] at this)
  rw [List.length_map] at hl
  have e : (l.map fun b => Value.int .u8 (b.toNat : Int)) = (l.map fun b => (b.toNat : Int)).map (Value.int .u8) := by rw [List.map_map]; rfl
  rw [e] at hl
  rw [run_bytesToString _ _ _ _ _ hl, foldl_push]
  simp

set_option maxRecDepth 100000 in
theorem dstring_any (w : World) {d : Int} (h1 : -9223372036854775808 ≤ d) (h2 : d ≤ 9223372036854775807) :
    Calls Tryd.prog 27 #[.int .i64 d] w fun e w' => e = .returned (.string ⟨(str d).toArray⟩) ∧ bw 61 32 w (str d) = w' := by
  obtain ⟨k, hk, hfm⟩ := format_any 61 w h1 h2
  have hlen := str_len h1 h2
  have hkk : (k : Int) ≤ 32 := by omega
  have hne : ¬ 32 = k := by omega
  have hne2 : ¬ k = 32 := by omega
  have hcv := tail_string (E := 61) w 32 k (str d).length (str d) hk
  have e32 : 32 - k = (str d).length := by omega
  obtain ⟨l, hl⟩ : ∃ l, str d = l := ⟨_, rfl⟩
  rw [hl] at hcv hfm hk e32 ⊢
  have HF := Lib.hid hfm
  have HK := Lib.hid hk
  clear hfm hk hl
  go_enter Tryd.func27, Tryd.ntmps27
  go_wp2_with fail
  refine (HF.out).mono ?_
  rintro e w' ⟨rfl, rfl⟩
  go_wp2
  go_ret
  exact ⟨rfl, rfl⟩

/-- impl.String returns the text. -/
theorem string_any (w : World) {d : Int} (h1 : -9223372036854775808 ≤ d) (h2 : d ≤ 9223372036854775807) :
    Calls Tryd.prog 18 #[.int .i64 d] w fun e w' => e = .returned (.string ⟨(str d).toArray⟩) ∧ bw 61 32 w (str d) = w' := by
  obtain ⟨l, hl⟩ : ∃ l, str d = l := ⟨_, rfl⟩
  have HF := Lib.hid (dstring_any w h1 h2)
  rw [hl] at HF ⊢
  clear hl
  go_enter Tryd.func18, Tryd.ntmps18
  go_wp2_with fail
  refine (HF.out).mono ?_
  rintro e w' ⟨rfl, rfl⟩
  go_wp2
  go_ret
  exact ⟨rfl, rfl⟩

theorem grown_bw {W w : World} (h : Grown W w) (E : TypeId) (n : Nat) (l : List UInt8) : Grown W (bw E n w l) := h.alloc _ _

end Go.Proofs.YteejjhdfebhagaaDoor
