/-
  Seat b6619122aM: the second law's walk (function 4), with zzBytes (9) and zzMaxNumber (10).
-/
import Derived.Test.Qxb6619122aModsNumLaw
namespace Go.Proofs.Qxb6619122aMods.Num
open Go.RowKit
set_option linter.unusedVariables false

theorem bytes2_no (k c : Int) (a : Option Addr) (len cap : Nat) (w : World) (hl : len ≤ 9223372036854775807) (h : 1048576 < len) :
    Calls Trym.prog 9 #[.int .i64 k, .int .u8 c, .slice a len cap] w fun e w' => e = .returned (.bool false) ∧ w' = w := by
  go_enter Trym.func9, Trym.ntmps9
  go_wp2
  go_ret
  exact ⟨rfl, rfl⟩

theorem bytes2_yes (k c : Int) (a : Option Addr) (len cap : Nat) (w : World) (h : len ≤ 1048576) :
    Calls Trym.prog 9 #[.int .i64 k, .int .u8 c, .slice a len cap] w fun e w' => e = .returned (.bool true) ∧ w' = w := by
  go_enter Trym.func9, Trym.ntmps9
  go_wp2
  go_ret
  exact ⟨rfl, rfl⟩

theorem ret_int {a b : Int} (h : a = b) : Ending.returned (.int .i64 a) = .returned (.int .i64 b) := by rw [h]

theorem max_any (w : World) : Calls Trym.prog 10 #[] w fun e w' => e = .returned (.int .i64 999999999999999999) ∧ w' = w := by
  go_enter Trym.func10, Trym.ntmps10
  go_wp2
  go_loop [1, 2] (fun m i => ∃ j P : Nat, j ≤ 18 ∧ i = .int .i64 j ∧ m = .int .i64 ((P : Int) - 1) ∧ Hid (P = 10 ^ j)) (fun _ i => 18 - (intOf i).toNat)
  case atStart => exact ⟨0, 1, by omega, rfl, rfl, rfl⟩
  case round =>
    obtain ⟨j, P, hj, rfl, rfl, HP⟩ := hrel
    by_cases hlt : j < 18
    · have h1 : 1 ≤ P := by rw [HP.out]; exact Nat.one_le_pow _ _ (by omega)
      have h2 : P ≤ 100000000000000000 := by
        rw [HP.out]
        exact Nat.le_trans (Nat.pow_le_pow_right (by omega) (by omega : j ≤ 17)) (by decide)
      go_wp2
      go_round
      case rel => exact ⟨j + 1, P * 10, by omega, by go_num, (by congr 1; omega), by show _ = _; rw [HP.out, Nat.pow_succ]⟩
      case measure => simp [intOf]; omega
    · have ej : j = 18 := by omega
      have HPV : Hid ((P : Int) - 1 = 999999999999999999) := by
        have := HP.out
        rw [ej] at this
        show _ = _
        rw [this]
        decide
      clear HP ej
      go_wp2
      go_ret
      exact ⟨ret_int HPV.out, rfl⟩

theorem law2_long (k c : Int) (a : Option Addr) (len cap : Nat) (w : World) (hl : len ≤ 9223372036854775807) (h : 1048576 < len) :
    Calls Trym.prog 4 #[.int .i64 k, .int .u8 c, .slice a len cap] w fun e w' => e = .returned (.bool true) ∧ Below w.heap.size w w' := by
  go_enter Trym.func4, Trym.ntmps4
  go_wp2_with fail
  refine (bytes2_no k c a len cap w hl h).mono ?_
  rintro e w' ⟨rfl, hw⟩
  obtain rfl := hw.symm
  go_wp2
  go_ret
  exact ⟨rfl, Below.refl _ _⟩

theorem law2_neg (k c : Int) (a : Option Addr) (len cap : Nat) (w : World) (h : len ≤ 1048576) (hk : k < 0) :
    Calls Trym.prog 4 #[.int .i64 k, .int .u8 c, .slice a len cap] w fun e w' => e = .returned (.bool true) ∧ Below w.heap.size w w' := by
  go_enter Trym.func4, Trym.ntmps4
  go_wp2_with fail
  refine (bytes2_yes k c a len cap w h).mono ?_
  rintro e w' ⟨rfl, hw⟩
  obtain rfl := hw.symm
  go_wp2_with fail
  go_ret
  exact ⟨rfl, Below.refl _ _⟩

theorem law2_big (k c : Int) (a : Option Addr) (len cap : Nat) (w : World) (h : len ≤ 1048576) (hk : 999999999999999999 < k) :
    Calls Trym.prog 4 #[.int .i64 k, .int .u8 c, .slice a len cap] w fun e w' => e = .returned (.bool true) ∧ Below w.heap.size w w' := by
  have hk0 : 0 ≤ k := by omega
  go_enter Trym.func4, Trym.ntmps4
  go_wp2_with fail
  refine (bytes2_yes k c a len cap w h).mono ?_
  rintro e w' ⟨rfl, hw⟩
  obtain rfl := hw.symm
  go_wp2_with fail
  refine (max_any w).mono ?_
  rintro e w' ⟨rfl, hw⟩
  obtain rfl := hw.symm
  go_wp2_with fail
  go_ret
  exact ⟨rfl, Below.refl _ _⟩

theorem law2_digit (v : Nat) (c : Int) (a : Option Addr) (len cap : Nat) (w : World) (h : len ≤ 1048576) (hk : v ≤ 999999999999999999) (hc : Hid (digit c = true)) :
    Calls Trym.prog 4 #[.int .i64 v, .int .u8 c, .slice a len cap] w fun e w' => e = .returned (.bool true) ∧ Below w.heap.size w w' := by
  go_enter Trym.func4, Trym.ntmps4
  go_wp2_with fail
  refine (bytes2_yes v c a len cap w h).mono ?_
  rintro e w' ⟨rfl, hw⟩
  obtain rfl := hw.symm
  go_wp2_with fail
  refine (max_any w).mono ?_
  rintro e w' ⟨rfl, hw⟩
  obtain rfl := hw.symm
  go_wp2_with fail
  refine (isDigit_is c true w hc).mono ?_
  rintro e w' ⟨rfl, hw⟩
  obtain rfl := hw.symm
  go_wp2_with fail
  go_ret
  exact ⟨rfl, Below.refl _ _⟩

/-- 'make' at a size that the walk spells in its own way. -/
theorem make_at (x : Int) (n : Nat) (hx : x = (n : Int)) (hn : n ≤ 140737488355328) (w : World) : (Instr.makeSlice 22 (.int .i64 x) (.int .i64 x)).run Trym.prog w =
    .ok (.slice (some ⟨w.heap.size, 0, none⟩) n n) (w.alloc (.cells (Array.replicate n (.int .u8 0)) 5)) := by
  rw [hx]
  exact make_run n hn w

/-- Block M is being filled with T: its first j cells are T's; the row of L stands; nothing old has turned. -/
structure Fill (w wr : World) (N M TL : Nat) (L T : List Int) (j : Nat) (O : List Int) : Prop where
  len : O.length = TL
  agree : ∀ q, q < j → O.getD q 0 = T.getD q 0
  rowO : RowAt wr M 5 O
  rowL : RowAt wr N 5 L
  below : Below w.heap.size w wr

theorem Fill.start {w wr : World} {N TL : Nat} {L T : List Int} (hL : RowAt wr N 5 L) (hb : Below w.heap.size w wr) :
    Fill w (wr.alloc (.cells (Array.replicate TL (.int .u8 0)) 5)) N wr.heap.size TL L T 0 (List.replicate TL 0) :=
  ⟨by simp, fun q hq => absurd hq (Nat.not_lt_zero _), rowAt_zeros wr TL, hL.block (Below.heap_alloc _ _ _ hL.lt), hb.alloc hb.size _⟩

theorem Fill.step {w wr : World} {N M TL : Nat} {L T : List Int} {j : Nat} {O : List Int} {x : Int} (h : Fill w wr N M TL L T j O) (hj : j < TL) (hx : x = T.getD j 0) (hne : N ≠ M) (hM : w.heap.size ≤ M) :
    Fill w (wr.setCell ⟨M, j, none⟩ (.int .u8 x)) N M TL L T (j + 1) (O.set j x) :=
  ⟨by rw [List.length_set]; exact h.len, fill_step (by rw [h.len]; exact hj) h.agree hx, h.rowO.store j x, h.rowL.other _ _ hne, h.below.setCell hM _⟩

theorem Fill.whole {w wr : World} {N M TL : Nat} {L T : List Int} {O : List Int} (h : Fill w wr N M TL L T TL O) (hT : T.length = TL) : RowAt wr M 5 T := by
  have : O = T := fill_end (by rw [h.len, hT]) (fun j hj => h.agree j (by omega))
  rw [← this]
  exact h.rowO

theorem fill_nought {w wb : World} {M TL : Nat} {T : List Int} (rT : RowAt wb M 5 T) (hb : Below w.heap.size w wb) :
    Fill w (wb.alloc (.cells ((Array.replicate (TL + 1) (.int .u8 0)).setIfInBounds 0 (.int .u8 48)) 5)) M wb.heap.size (TL + 1) T (48 :: T) 1 ((List.replicate (TL + 1) 0).set 0 48) := by
  refine ⟨by simp, fun q hq => ?_, ?_, rT.block (Below.heap_alloc _ _ _ rT.lt), hb.alloc hb.size _⟩
  · obtain rfl : q = 0 := by omega
    rfl
  · have e : (Array.replicate (TL + 1) (Value.int .u8 0)).setIfInBounds 0 (.int .u8 48) = (((List.replicate (TL + 1) (0 : Int)).set 0 48).map (Value.int .u8)).toArray := by
      apply Array.ext'
      simp [List.map_set]
    rw [e]
    exact rowAt_alloc _ _ _

set_option maxHeartbeats 4000000 in
theorem law2_main (v : Nat) (c : Int) (a : Option Addr) (len cap : Nat) (S : List Int) (w : World) (hl : len ≤ 1048576) (hk : v ≤ 999999999999999999) (hc : Hid (digit c = false)) (hcb : 0 ≤ c ∧ c ≤ 255) (hr : Row w a len S) :
    Calls Trym.prog 4 #[.int .i64 v, .int .u8 c, .slice a len cap] w fun e w' => e = .returned (.bool true) ∧ Below w.heap.size w w' := by
  have hv : v < 10 ^ 18 := by omega
  obtain ⟨i1, i2, i3, i4, i5⟩ := dec_is hv
  obtain ⟨L, hL⟩ : ∃ L, dec v = L := ⟨_, rfl⟩
  obtain ⟨T, hT⟩ : ∃ T, T = L ++ c :: S := ⟨_, rfl⟩
  have n1 : num L = (v, L.length) := by have := num_dec hv (r := []) (fun h => by simp at h); rw [hL, List.append_nil] at this; exact this
  have n2 : num T = (v, L.length) := by have := num_dec hv (r := c :: S) (fun _ => hc.out); rw [hL, ← hT] at this; exact this
  have n3 : num (48 :: T) = (0, 0) := by have := num_nought hv (r := c :: S) (fun _ => hc.out); rw [hL, ← hT] at this; exact this
  have A1 : Hid (((num L).1 : Int) = (v : Int)) := by rw [n1]; rfl
  have A2 : Hid (((num L).2 : Int) = (L.length : Int)) := by rw [n1]; rfl
  have B1 : Hid (((num T).1 : Int) = (v : Int)) := by rw [n2]; rfl
  have B2 : Hid (((num T).2 : Int) = (L.length : Int)) := by rw [n2]; rfl
  have C1 : Hid (((num (48 :: T)).1 : Int) = 0) := by rw [n3]; rfl
  have C2 : Hid (((num (48 :: T)).2 : Int) = 0) := by rw [n3]; rfl
  rw [hL] at i1 i3 i4
  have HL : Hid (dec v = L) := hL
  have hTl : T.length = L.length + 1 + len := by rw [hT, List.length_append, List.length_cons, hr.count]; omega
  have T1 : Hid (∀ j, j < L.length → T.getD j 0 = L.getD j 0) := fun j hj => by rw [hT]; exact getD_left hj
  have T2 : Hid (T.getD L.length 0 = c) := by
    rw [hT, List.getD_eq_getElem?_getD, List.getElem?_append_right (Nat.le_refl _), Nat.sub_self]; rfl
  have T3 : Hid (∀ j, j < len → T.getD (L.length + 1 + j) 0 = S.getD j 0) := fun j hj => by
    rw [hT, List.getD_eq_getElem?_getD, List.getElem?_append_right (by omega), show L.length + 1 + j - L.length = j + 1 by omega, List.getElem?_cons_succ, ← List.getD_eq_getElem?_getD]
  have hLb : ∀ i, i < L.length → 0 ≤ L.getD i 0 ∧ L.getD i 0 ≤ 255 := fun i hi => by
    have := (digit_iff _).1 (i1 _ (getD_mem hi 0)); omega
  have hTb : ∀ i, i < T.length → 0 ≤ T.getD i 0 ∧ T.getD i 0 ≤ 255 := fun i hi => by
    by_cases h1 : i < L.length
    · rw [T1.out i h1]; exact hLb i h1
    · by_cases h2 : i = L.length
      · subst h2; rw [T2.out]; exact hcb
      · have h3 := T3.out (i - L.length - 1) (by omega)
        rw [show L.length + 1 + (i - L.length - 1) = i by omega] at h3
        rw [h3]
        exact hr.byte _ (by omega)
  have hZb : ∀ i, i < (48 :: T).length → 0 ≤ (48 :: T).getD i 0 ∧ (48 :: T).getD i 0 ≤ 255 := fun i hi => by
    cases i with
    | zero => simp
    | succ i => simpa using hTb i (by simpa using hi)
  have HLb := (show Hid (∀ i, i < L.length → 0 ≤ L.getD i 0 ∧ L.getD i 0 ≤ 255) from hLb)
  have HTb := (show Hid (∀ i, i < T.length → 0 ≤ T.getD i 0 ∧ T.getD i 0 ≤ 255) from hTb)
  have HZb := (show Hid (∀ i, i < (48 :: T).length → 0 ≤ (48 :: T).getD i 0 ∧ (48 :: T).getD i 0 ≤ 255) from hZb)
  obtain ⟨n, hn⟩ : ∃ n, L.length = n := ⟨_, rfl⟩
  obtain ⟨TL, hTL⟩ : ∃ TL, n + 1 + len = TL := ⟨_, rfl⟩
  have HTl : Hid (T.length = TL) := by rw [hTl, hn]; exact hTL
  have HLl : Hid (L.length = n) := hn
  rw [hn] at A2 B2 T1 T2 T3 i3 i4
  have t1 : n + 1 + len ≤ TL := by omega
  have t2 : TL ≤ n + 1 + len := by omega
  clear n1 n2 n3 i1 i2 i5 hL hT hTl hLb hTb hZb hn hTL hcb
  have hmk1 : ∀ w : World, (Instr.makeSlice 22 (.int .i64 ((n : Int) + 1 + (len : Int))) (.int .i64 ((n : Int) + 1 + (len : Int)))).run Trym.prog w =
      .ok (.slice (some ⟨w.heap.size, 0, none⟩) TL TL) (w.alloc (.cells (Array.replicate TL (.int .u8 0)) 5)) := make_at _ TL (by omega) (by omega)
  have hmk2 : ∀ w : World, (Instr.makeSlice 22 (.int .i64 (1 + (TL : Int))) (.int .i64 (1 + (TL : Int)))).run Trym.prog w =
      .ok (.slice (some ⟨w.heap.size, 0, none⟩) (TL + 1) (TL + 1)) (w.alloc (.cells (Array.replicate (TL + 1) (.int .u8 0)) 5)) := make_at _ (TL + 1) (by omega) (by omega)
  have d1 : decide (1048576 < (len : Int)) = false := decide_eq_false (by omega)
  have d2 : decide ((v : Int) < 0) = false := decide_eq_false (by omega)
  have d3 : decide (999999999999999999 < (v : Int)) = false := decide_eq_false (by omega)
  go_enter Trym.func4, Trym.ntmps4
  go_wp2_with fail
  refine (bytes2_yes v c a len cap w hl).mono ?_
  rintro e w' ⟨rfl, hw⟩
  obtain rfl := hw.symm
  go_wp2_with fail
  refine (max_any w).mono ?_
  rintro e w' ⟨rfl, hw⟩
  obtain rfl := hw.symm
  go_wp2_with fail
  refine (isDigit_is c false w hc).mono ?_
  rintro e w' ⟨rfl, hw⟩
  obtain rfl := hw.symm
  go_wp2_with fail
  refine (decimal_list v hv w L HL).mono ?_
  intro e w1 hD
  obtain ⟨N, rfl, hN, hrowL, hbel1⟩ := hD.parts
  clear hD hw
  rw [HLl.out]
  have hz1 := hbel1.size
  have hN1 := hrowL.lt
  go_wp2_with fail
  clear d1 d2 d3 hmk1
  go_loopw [10] (fun i wr => ∃ (j : Nat) (O : List Int), j ≤ n ∧ i = .int .i64 j ∧ Fill w wr N w1.heap.size TL L T j O) (fun i _ => n - (intOf i).toNat)
  case atStart => exact ⟨0, _, Nat.zero_le _, rfl, Fill.start hrowL hbel1⟩
  case round =>
    obtain ⟨j, O, hjn, rfl, hF⟩ := hrel
    by_cases hjlt : j < n
    · have cA := hF.rowL.cell (i := j) (by rw [HLl.out]; exact hjlt)
      have HX : Hid (L.getD j 0 = T.getD j 0) := (T1.out j hjlt).symm
      generalize L.getD j 0 = x at *
      have cB := hF.rowO.cell (i := j) (by rw [hF.len]; omega)
      have fB := hF.rowO.frozen j
      have hjT : j < TL := by omega
      go_wp2
      go_roundw
      case rel => exact ⟨j + 1, _, by omega, by go_num, hF.step hjT HX.out (by omega) hz1⟩
      case measure => simp [intOf]; omega
    have ej : j = n := by omega
    subst ej
    have cN := hF.rowO.cell (i := j) (by rw [hF.len]; omega)
    have fN := hF.rowO.frozen j
    have hjT : j < TL := by omega
    have hF1 := hF.step hjT T2.out.symm (by omega : N ≠ w1.heap.size) hz1
    go_wp2_with fail
    obtain ⟨wa, hwa⟩ : ∃ wa, wa = wr.setCell ⟨w1.heap.size, j, none⟩ (.int .u8 c) := ⟨_, rfl⟩
    rw [← hwa] at hF1 ⊢
    clear hF cN fN hjT hjn hjlt hwa
    go_loopw [11] (fun i wr => ∃ (m : Nat) (O : List Int), m ≤ len ∧ i = .int .i64 m ∧ Fill w wr N w1.heap.size TL L T (j + 1 + m) O) (fun i _ => len - (intOf i).toNat)
    case atStart => exact ⟨0, _, Nat.zero_le _, rfl, hF1⟩
    case round =>
      obtain ⟨m, O2, hml, rfl, hF2⟩ := hrel
      clear hF1
      by_cases hmlt : m < len
      · have cB := hF2.rowO.cell (i := j + 1 + m) (by rw [hF2.len]; omega)
        have fB := hF2.rowO.frozen (j + 1 + m)
        have hjT : j + 1 + m < TL := by omega
        obtain ⟨b', off', rfl, cA⟩ := (hr.below hF2.below (Nat.le_refl _)).cells m hmlt
        have HX : Hid (S.getD m 0 = T.getD (j + 1 + m) 0) := (T3.out m hmlt).symm
        generalize S.getD m 0 = x at *
        go_wp2
        go_roundw
        case rel => exact ⟨m + 1, _, by omega, by go_num, hF2.step hjT HX.out (by omega) hz1⟩
        case measure => simp [intOf]; omega
      have em : j + 1 + m = TL := by omega
      rw [em] at hF2
      have rT := hF2.whole HTl.out
      have rL := hF2.rowL
      have hb2 := hF2.below
      clear hF2 em
      obtain ⟨wb, hwb⟩ : ∃ wb : World, wb = wr := ⟨_, rfl⟩
      subst hwb
      have hzb := hb2.size
      have hTlt := rT.lt
      have hLlt := rL.lt
      go_wp2_with fail
      have hFs : Fill w (wb.alloc (.cells ((Array.replicate (TL + 1) (.int .u8 0)).setIfInBounds 0 (.int .u8 48)) 5)) w1.heap.size wb.heap.size (TL + 1) T (48 :: T) 1 ((List.replicate (TL + 1) 0).set 0 48) :=
        fill_nought rT hb2
      have hLs : RowAt (wb.alloc (.cells ((Array.replicate (TL + 1) (.int .u8 0)).setIfInBounds 0 (.int .u8 48)) 5)) N 5 L := rL.block (Below.heap_alloc _ _ _ hLlt)
      obtain ⟨wc, hwc⟩ : ∃ wc, wc = wb.alloc (.cells ((Array.replicate (TL + 1) (.int .u8 0)).setIfInBounds 0 (.int .u8 48)) 5) := ⟨_, rfl⟩
      rw [← hwc] at hFs hLs ⊢
      clear hwc hmk2 rT rL hb2 hml hmlt
      go_loopw [13] (fun i wr => ∃ (q : Nat) (O : List Int), q ≤ TL ∧ i = .int .i64 q ∧ Fill w wr w1.heap.size wb.heap.size (TL + 1) T (48 :: T) (q + 1) O ∧ RowAt wr N 5 L) (fun i _ => TL - (intOf i).toNat)
      case atStart => exact ⟨0, _, Nat.zero_le _, rfl, hFs, hLs⟩
      case round =>
        obtain ⟨q, O3, hqT, rfl, hF3, rL3⟩ := hrel
        clear hFs hLs
        by_cases hqlt : q < TL
        · have cA := hF3.rowL.cell (i := q) (by rw [HTl.out]; exact hqlt)
          have cB := hF3.rowO.cell (i := q + 1) (by rw [hF3.len]; omega)
          have fB := hF3.rowO.frozen (q + 1)
          have cB' := hF3.rowO.cell (i := 1 + q) (by rw [hF3.len]; omega)
          have fB' := hF3.rowO.frozen (1 + q)
          have HX : Hid (T.getD q 0 = (48 :: T).getD (q + 1) 0) := by show _ = _; simp
          generalize T.getD q 0 = x at *
          have hst := hF3.step (x := x) (by omega : q + 1 < TL + 1) HX.out (by omega) (by omega)
          have rst := rL3.other (q + 1) (.int .u8 x) (by omega : N ≠ wb.heap.size)
          go_wp2
          go_roundw
          case rel =>
            rw [Nat.add_comm 1 q]
            exact ⟨q + 1, _, by omega, by go_num, hst, rst⟩
          case measure => simp [intOf]; omega
        have eq : q = TL := by omega
        subst eq
        have rowL : Row wr (some ⟨N, 0, none⟩) j L := rL3.row (by rw [HLl.out]; omega) HLb.out HLl.out
        have rowT : Row wr (some ⟨w1.heap.size, 0, none⟩) q T := hF3.rowL.row (by rw [HTl.out]; omega) HTb.out HTl.out
        have rowZ : Row wr (some ⟨wb.heap.size, 0, none⟩) (q + 1) (48 :: T) := (hF3.whole (by rw [List.length_cons, HTl.out])).row (by rw [List.length_cons, HTl.out]; omega) HZb.out (by rw [List.length_cons, HTl.out])
        have hbF := hF3.below
        clear hF3 rL3 hqT hqlt
        go_wp2_with fail
        refine (zznumber_is _ j j L wr v j rowL A1 A2).mono ?_
        rintro e w' ⟨rfl, hw⟩
        obtain rfl := hw.symm
        go_wp2_with fail
        refine (zznumber_is _ q q T wr v j rowT B1 B2).mono ?_
        rintro e w' ⟨rfl, hw⟩
        obtain rfl := hw.symm
        go_wp2_with fail
        refine (zznumber_is _ (q + 1) (q + 1) (48 :: T) wr 0 0 rowZ C1 C2).mono ?_
        rintro e w' ⟨rfl, hw⟩
        obtain rfl := hw.symm
        go_wp2
        go_ret
        exact ⟨rfl, hbF⟩

/-- The second law, whatever the input. -/
theorem law2_any (k c : Int) (a : Option Addr) (len cap : Nat) (S : List Int) (w : World) (hcb : 0 ≤ c ∧ c ≤ 255) (hm : len ≤ 9223372036854775807) (hr : len ≤ 1048576 → Row w a len S) :
    Calls Trym.prog 4 #[.int .i64 k, .int .u8 c, .slice a len cap] w fun e w' => e = .returned (.bool true) ∧ Below w.heap.size w w' := by
  by_cases hl : 1048576 < len
  · exact law2_long k c a len cap w hm hl
  have hl' : len ≤ 1048576 := by omega
  by_cases hneg : k < 0
  · exact law2_neg k c a len cap w hl' hneg
  by_cases hbig : 999999999999999999 < k
  · exact law2_big k c a len cap w hl' hbig
  obtain ⟨v, rfl⟩ := Int.eq_ofNat_of_zero_le (by omega : 0 ≤ k)
  cases hd : digit c
  · exact law2_main v c a len cap S w hl' (by omega) hd hcb (hr hl')
  · exact law2_digit v c a len cap w hl' (by omega) hd

end Go.Proofs.Qxb6619122aMods.Num
