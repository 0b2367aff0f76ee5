/-
  Seat b6619122aM: the first law's walk (function 3).
-/
import Derived.Test.Qxb6619122aModsNumDecimal
import Derived.Laws.CopyOwn
import Derived.Deep.QuietTactic
import Derived.BigQuiet
namespace Go.Proofs.Qxb6619122aMods.Num
open Go.RowKit
set_option linter.unusedVariables false

theorem bytes1_no (a : Option Addr) (len cap : Nat) (w : World) (hl : len ≤ 9223372036854775807) (h : 1048576 < len) :
    Calls Trym.prog 5 #[.slice a len cap] w fun e w' => e = .returned (.bool false) ∧ w' = w := by
  go_enter Trym.func5, Trym.ntmps5
  go_wp2
  go_ret
  exact ⟨rfl, rfl⟩

theorem bytes1_yes (a : Option Addr) (len cap : Nat) (w : World) (h : len ≤ 1048576) :
    Calls Trym.prog 5 #[.slice a len cap] w fun e w' => e = .returned (.bool true) ∧ w' = w := by
  go_enter Trym.func5, Trym.ntmps5
  go_wp2
  go_ret
  exact ⟨rfl, rfl⟩

theorem law1_long (a : Option Addr) (len cap : Nat) (w : World) (hl : len ≤ 9223372036854775807) (h : 1048576 < len) :
    Calls Trym.prog 3 #[.slice a len cap] w fun e w' => e = .returned (.bool true) ∧ Below w.heap.size w w' := by
  go_enter Trym.func3, Trym.ntmps3
  go_wp2_with fail
  refine (bytes1_no a len cap w hl h).mono ?_
  rintro e w' ⟨rfl, hw⟩
  obtain rfl := hw.symm
  go_wp2
  go_ret
  exact ⟨rfl, Below.refl _ _⟩

theorem row_nil (w : World) : Row w none 0 [] := ⟨rfl, Nat.zero_le _, fun i hi => absurd hi (Nat.not_lt_zero _), fun i hi => absurd hi (Nat.not_lt_zero _)⟩

theorem zznumber_is (a : Option Addr) (len cap : Nat) (xs : List Int) (w : World) (V D : Int) (hr : Row w a len xs) (h1 : Hid (((num xs).1 : Int) = V)) (h2 : Hid (((num xs).2 : Int) = D)) :
    Calls Trym.prog 6 #[.slice a len cap] w fun e w' => e = .returned (.tuple #[.int .i64 V, .int .i64 D]) ∧ w' = w := by
  rw [← h1.out, ← h2.out]
  exact zznumber_any a len cap xs w hr

theorem isDigit_is (c : Int) (t : Bool) (w : World) (h : Hid (digit c = t)) : Calls Trym.prog 7 #[.int .u8 c] w fun e w' => e = .returned (.bool t) ∧ w' = w := by
  rw [← h.out]
  exact isDigit_any c w

theorem decimal_is (V : Int) (v : Nat) (hv : v < 10 ^ 18) (w : World) (h : Hid (V = (v : Int))) : Calls Trym.prog 8 #[.int .i64 V] w fun e w' => DecMade w w' e v := by
  rw [h.out]
  exact decimal_any v hv w

set_option maxHeartbeats 1000000 in
theorem law1_nil (cap : Nat) (w : World) :
    Calls Trym.prog 3 #[.slice none 0 cap] w fun e w' => e = .returned (.bool true) ∧ Below w.heap.size w w' := by
  have q1 : ∀ w : World, (binOp .neq 22 (.slice none 0 cap) (.slice none 0 0)).run Trym.prog w = .ok (.bool false) w := fun w => run_neq_slice_nil_any w _ _ none 0 cap 0 0 Trym.underlying22
  go_enter Trym.func3, Trym.ntmps3
  go_wp2_with fail
  refine (bytes1_yes none 0 cap w (by omega)).mono ?_
  rintro e w' ⟨rfl, hw⟩
  obtain rfl := hw.symm
  go_wp2_with fail
  refine (zznumber_is none 0 cap [] w 0 0 (row_nil w) rfl rfl).mono ?_
  rintro e w' ⟨rfl, hw⟩
  obtain rfl := hw.symm
  clear q1
  go_wp2_with fail
  refine wp_loop_rounds 1 ?_
  rw [rounds_succ]
  go_wp2
  go_ret
  exact ⟨rfl, Below.refl _ _⟩

theorem info5s : (Trym.prog.info? 5).map (·.size) = some 1 := by kernel_rfl

/-- The copied cells lie where the slice leads. -/
theorem copy_src {w : World} {b off len : Nat} {xs : List Int} (hr : Row w (some ⟨b, off, none⟩) len xs) (o : Obj) (j : Nat) (v : Value) (h : (xs.map (Value.int .u8))[j]? = some v) : (w.alloc o).cell? ((⟨b, off, none⟩ : Addr).add j) = some v := by
  rw [List.getElem?_map] at h
  obtain ⟨x, hx, rfl⟩ := Option.map_eq_some_iff.1 h
  have hj : j < len := by rw [← hr.count]; exact (List.getElem?_eq_some_iff.1 hx).1
  obtain ⟨b', off', e, hc⟩ := hr.cells j hj
  cases e
  rw [Go.WideShapes.add_plain]
  have hlt := World.block_lt_of_cell? _ _ hc
  rw [Below.cell (((Below.refl w.heap.size w).alloc (Nat.le_refl _) o)) hlt, hc, List.getD_eq_getElem?_getD, hx]
  rfl

/-- 'copy(zzc, b)' over the row just made. -/
theorem copy_run_at {w : World} {b off len cap : Nat} {xs : List Int} (hr : Row w (some ⟨b, off, none⟩) len xs) :
    ∃ w1, (∀ ty, (Builtin.copy_ #[22, 22] ty #[.slice (some ⟨w.heap.size, 0, none⟩) len len, .slice (some ⟨b, off, none⟩) len cap]).run Trym.prog (w.alloc (.cells (Array.replicate len (.int .u8 0)) 5)) = .ok (.int .i64 len) w1) ∧
      RowAt w1 w.heap.size 5 xs ∧ Below w.heap.size w w1 := by
  have hbel : Below w.heap.size w (w.alloc (.cells (Array.replicate len (.int .u8 0)) 5)) := (Below.refl _ _).alloc (Nat.le_refl _) _
  have hg : (w.alloc (.cells (Array.replicate len (.int .u8 0)) 5)).heap[w.heap.size]? = some (.cells (Array.replicate len (.int .u8 0)) 5 (0, 0)) := by
    show (w.heap.push _)[w.heap.size]? = _
    simp
  have hcl : (xs.map (Value.int .u8)).length = Nat.min len len := by rw [List.length_map, hr.count]; exact (Nat.min_self len).symm
  refine ⟨_, fun ty => ?_, ?_, below_setRow hbel (Nat.le_refl _) (xs.map (Value.int .u8)).toArray⟩
  · have h := run_copy_row (P := Trym.prog) (w.alloc (.cells (Array.replicate len (.int .u8 0)) 5)) 22 22 ty 5 w.heap.size 0 len len ⟨b, off, none⟩ len cap (Array.replicate len (.int .u8 0)) 5 (xs.map (Value.int .u8)) Trym.underlying22 info5s hg hcl
      (fun j v h => copy_src hr _ j v h) (by simp [hr.count]) (fun v hv => by obtain ⟨x, _, rfl⟩ := List.mem_map.1 hv; rfl)
    simpa [goInt, hr.count] using h
  · have := setRow_heap (w.alloc (.cells (Array.replicate len (.int .u8 0)) 5)) w.heap.size _ (xs.map (Value.int .u8)).toArray 5 _ hg
    exact this

theorem copy_run {w : World} {x : Addr} {len cap : Nat} {xs : List Int} (hr : Row w (some x) len xs) :
    ∃ w1, (∀ ty, (Builtin.copy_ #[22, 22] ty #[.slice (some ⟨w.heap.size, 0, none⟩) len len, .slice (some x) len cap]).run Trym.prog (w.alloc (.cells (Array.replicate len (.int .u8 0)) 5)) = .ok (.int .i64 len) w1) ∧
      RowAt w1 w.heap.size 5 xs ∧ Below w.heap.size w w1 := by
  by_cases h0 : len = 0
  · subst h0
    obtain rfl : xs = [] := List.eq_nil_of_length_eq_zero hr.count
    refine ⟨_, fun ty => ?_, rowAt_zeros w 0, (Below.refl _ _).alloc (Nat.le_refl _) _⟩
    have h := run_copy_none (P := Trym.prog) (w.alloc (.cells (Array.replicate 0 (.int .u8 0)) 5)) 22 22 ty 5 (some ⟨w.heap.size, 0, none⟩) (some x) 0 0 0 cap Trym.underlying22 info5s rfl
    exact h
  · obtain ⟨b, off, e, _⟩ := hr.cells 0 (by omega)
    cases e
    exact copy_run_at hr

theorem below_drewN {B : Nat} {a w : World} (h : Below B a w) (n : Nat) : Below B a (w.drewN n) := h.trans ⟨rfl, rfl, rfl, Nat.le_refl _, fun _ _ => rfl⟩

/-- zzDecimal's end, the writing given as a list. -/
def ListMade (w w' : World) (e : Ending) (L : List Int) : Prop :=
  ∃ N, e = .returned (.slice (some ⟨N, 0, none⟩) L.length L.length) ∧ w.heap.size ≤ N ∧ RowAt w' N 5 L ∧ Below w.heap.size w w'

theorem ListMade.parts {w w' : World} {e : Ending} {L : List Int} (h : ListMade w w' e L) : ∃ N, e = .returned (.slice (some ⟨N, 0, none⟩) L.length L.length) ∧ w.heap.size ≤ N ∧ RowAt w' N 5 L ∧ Below w.heap.size w w' := h

theorem decimal_list (v : Nat) (hv : v < 10 ^ 18) (w : World) (L : List Int) (hL : Hid (dec v = L)) : Calls Trym.prog 8 #[.int .i64 v] w fun e w' => ListMade w w' e L := by
  rw [← hL.out]
  exact decimal_any v hv w

set_option maxHeartbeats 4000000 in
theorem law1_bad (x : Addr) (len cap : Nat) (xs : List Int) (w : World) (hr : Row w (some x) len xs) (hl : len ≤ 1048576)
    (hbad : run xs = 0 ∨ 18 < run xs ∨ (xs.getD 0 0 = 48 ∧ 1 < run xs)) :
    Calls Trym.prog 3 #[.slice (some x) len cap] w fun e w' => e = .returned (.bool true) ∧ Below w.heap.size w w' := by
  have HN1 : Hid (((num xs).1 : Int) = 0) := by rw [num_bad hbad]; rfl
  have HN2 : Hid (((num xs).2 : Int) = 0) := by rw [num_bad hbad]; rfl
  have HBAD : Hid (run xs = 0 ∨ 18 < run xs ∨ (xs.getD 0 0 = 48 ∧ 1 < run xs)) := hbad
  clear hbad
  have q1 : ∀ w : World, (binOp .neq 22 (.slice (some x) len cap) (.slice none 0 0)).run Trym.prog w = .ok (.bool true) w := fun w => run_neq_slice_nil_any w _ _ (some x) len cap 0 0 Trym.underlying22
  have hmk := make_run len (by omega)
  obtain ⟨w1, hcp, hrow1, hbel1⟩ := copy_run (cap := cap) hr
  have hd0 : decide (1048576 < (len : Int)) = false := decide_eq_false (by omega)
  have HCNT : Hid (xs.length = len) := hr.count
  have hr1 : Row w1 (some ⟨w.heap.size, 0, none⟩) len xs := hrow1.row (by rw [hr.count]; exact hr.short) (by rw [hr.count]; exact hr.byte) hr.count
  have hrl : run xs ≤ len := by rw [← hr.count]; exact run_le xs
  have HRD : Hid (∀ j, j < run xs → digit (xs.getD j 0) = true) := fun j hj => run_digit hj
  have HRS : Hid (run xs < len → digit (xs.getD (run xs) 0) = false) := fun h => run_stop (by rw [hr.count]; exact h)
  generalize run xs = r at *
  go_enter Trym.func3, Trym.ntmps3
  go_wp2_with fail
  refine (bytes1_yes _ len cap w hl).mono ?_
  rintro e w' ⟨rfl, hw⟩
  obtain rfl := hw.symm
  go_wp2_with fail
  refine (zznumber_is _ len len xs w1 0 0 hr1 HN1 HN2).mono ?_
  rintro e w' ⟨rfl, hw⟩
  obtain rfl := hw.symm
  clear q1 hmk hcp hd0 hw
  go_wp2_with fail
  go_loop [6] (fun i => ∃ k : Nat, k ≤ r ∧ i = .int .i64 k) (fun i => r - (intOf i).toNat)
  case atStart => exact ⟨0, Nat.zero_le _, rfl⟩
  case round =>
    obtain ⟨k, hk, rfl⟩ := hrel
    by_cases hkr : k < r
    · have hc := hrow1.cell (i := k) (by rw [HCNT.out]; omega)
      have HDG : Hid (digit (xs.getD k 0) = true) := HRD.out k hkr
      generalize xs.getD k 0 = c at *
      have hkl : k < len := by omega
      go_wp2_with fail
      refine (isDigit_is c true w1 HDG).mono ?_
      rintro e w' ⟨rfl, hw⟩
      obtain rfl := hw.symm
      go_wp2
      go_round
      case rel => exact ⟨k + 1, by omega, by go_num⟩
      case measure => simp [intOf]; omega
    have ek : k = r := by omega
    subst ek
    by_cases hkl : k < len
    · have hc := hrow1.cell (i := k) (by rw [HCNT.out]; omega)
      have HDG : Hid (digit (xs.getD k 0) = false) := HRS.out hkl
      generalize xs.getD k 0 = c at *
      go_wp2_with fail
      refine (isDigit_is c false w1 HDG).mono ?_
      rintro e w' ⟨rfl, hw⟩
      obtain rfl := hw.symm
      clear hw
      have hbad := HBAD.out
      rcases hbad with h0 | h18 | ⟨h48, h1⟩
      · have hz : ((k : Int) == 0) = true := beq_iff_eq.2 (by omega)
        clear h0
        go_wp2
        go_ret
        exact ⟨rfl, hbel1⟩
      · have hz : ((k : Int) == 0) = false := beq_eq_false_iff_ne.2 (by omega)
        have hd18 : decide (18 < (k : Int)) = true := decide_eq_true (by omega)
        go_wp2
        go_ret
        exact ⟨rfl, hbel1⟩
      · by_cases h18 : 18 < k
        · have hz : ((k : Int) == 0) = false := beq_eq_false_iff_ne.2 (by omega)
          have hd18 : decide (18 < (k : Int)) = true := decide_eq_true (by omega)
          clear h48
          go_wp2
          go_ret
          exact ⟨rfl, hbel1⟩
        · have hz : ((k : Int) == 0) = false := beq_eq_false_iff_ne.2 (by omega)
          have hd18 : decide (18 < (k : Int)) = false := decide_eq_false (by omega)
          have hd1 : decide (1 < (k : Int)) = true := decide_eq_true (by omega)
          have hc0 := hrow1.cell (i := 0) (by rw [HCNT.out]; omega)
          rw [h48] at hc0
          clear h48
          have h0l : 0 < len := by omega
          go_wp2
          go_ret
          exact ⟨rfl, hbel1⟩
    · have hkl' : decide ((k : Int) < (len : Int)) = false := decide_eq_false (by omega)
      have hbad := HBAD.out
      rcases hbad with h0 | h18 | ⟨h48, h1⟩
      · have hz : ((k : Int) == 0) = true := beq_iff_eq.2 (by omega)
        clear h0
        go_wp2
        go_ret
        exact ⟨rfl, hbel1⟩
      · have hz : ((k : Int) == 0) = false := beq_eq_false_iff_ne.2 (by omega)
        have hd18 : decide (18 < (k : Int)) = true := decide_eq_true (by omega)
        go_wp2
        go_ret
        exact ⟨rfl, hbel1⟩
      · by_cases h18 : 18 < k
        · have hz : ((k : Int) == 0) = false := beq_eq_false_iff_ne.2 (by omega)
          have hd18 : decide (18 < (k : Int)) = true := decide_eq_true (by omega)
          clear h48
          go_wp2
          go_ret
          exact ⟨rfl, hbel1⟩
        · have hz : ((k : Int) == 0) = false := beq_eq_false_iff_ne.2 (by omega)
          have hd18 : decide (18 < (k : Int)) = false := decide_eq_false (by omega)
          have hd1 : decide (1 < (k : Int)) = true := decide_eq_true (by omega)
          have hc0 := hrow1.cell (i := 0) (by rw [HCNT.out]; omega)
          rw [h48] at hc0
          clear h48
          have h0l : 0 < len := by omega
          go_wp2
          go_ret
          exact ⟨rfl, hbel1⟩

set_option maxHeartbeats 4000000 in
theorem law1_good (x : Addr) (len cap : Nat) (xs : List Int) (w : World) (hr : Row w (some x) len xs) (hl : len ≤ 1048576)
    (h0 : run xs ≠ 0) (h18 : run xs ≤ 18) (hgood : ¬ (xs.getD 0 0 = 48 ∧ 1 < run xs)) :
    Calls Trym.prog 3 #[.slice (some x) len cap] w fun e w' => e = .returned (.bool true) ∧ Below w.heap.size w w' := by
  obtain ⟨hn, hdec, hv⟩ := dec_num h0 h18 hgood
  have HN1 : Hid (((num xs).1 : Int) = ((value (xs.take (run xs)) : Nat) : Int)) := by rw [hn]; rfl
  have HN2 : Hid (((num xs).2 : Int) = ((run xs : Nat) : Int)) := by rw [hn]; rfl
  have HL : Hid (dec (value (xs.take (run xs))) = xs.take (run xs)) := hdec
  have hLl : (xs.take (run xs)).length = run xs := by rw [List.length_take, Nat.min_eq_left (run_le xs)]
  have HLX : Hid (∀ j, j < run xs → (xs.take (run xs)).getD j 0 = xs.getD j 0) := fun j hj => by
    rw [List.getD_eq_getElem?_getD, List.getElem?_take, if_pos hj, List.getD_eq_getElem?_getD]
  have HG : Hid (¬ (xs.getD 0 0 = 48 ∧ 1 < run xs)) := hgood
  have HLl : Hid ((xs.take (run xs)).length = run xs) := hLl
  clear hn hdec hgood hLl
  generalize value (xs.take (run xs)) = v at *
  generalize xs.take (run xs) = L at *
  have q1 : ∀ w : World, (binOp .neq 22 (.slice (some x) len cap) (.slice none 0 0)).run Trym.prog w = .ok (.bool true) w := fun w => run_neq_slice_nil_any w _ _ (some x) len cap 0 0 Trym.underlying22
  have hmk := make_run len (by omega)
  obtain ⟨w1, hcp, hrow1, hbel1⟩ := copy_run (cap := cap) hr
  have hd0 : decide (1048576 < (len : Int)) = false := decide_eq_false (by omega)
  have HCNT : Hid (xs.length = len) := hr.count
  have hr1 : Row w1 (some ⟨w.heap.size, 0, none⟩) len xs := hrow1.row (by rw [hr.count]; exact hr.short) (by rw [hr.count]; exact hr.byte) hr.count
  have hrl : run xs ≤ len := by rw [← hr.count]; exact run_le xs
  have HRD : Hid (∀ j, j < run xs → digit (xs.getD j 0) = true) := fun j hj => run_digit hj
  have HRS : Hid (run xs < len → digit (xs.getD (run xs) 0) = false) := fun h => run_stop (by rw [hr.count]; exact h)
  generalize run xs = r at *
  go_enter Trym.func3, Trym.ntmps3
  go_wp2_with fail
  refine (bytes1_yes _ len cap w hl).mono ?_
  rintro e w' ⟨rfl, hw⟩
  obtain rfl := hw.symm
  go_wp2_with fail
  refine (zznumber_is _ len len xs w1 v r hr1 HN1 HN2).mono ?_
  rintro e w' ⟨rfl, hw⟩
  obtain rfl := hw.symm
  clear q1 hmk hcp hd0 hw
  go_wp2_with fail
  go_loop [6] (fun i => ∃ k : Nat, k ≤ r ∧ i = .int .i64 k) (fun i => r - (intOf i).toNat)
  case atStart => exact ⟨0, Nat.zero_le _, rfl⟩
  case round =>
    obtain ⟨k, hk, rfl⟩ := hrel
    by_cases hkr : k < r
    · have hc := hrow1.cell (i := k) (by rw [HCNT.out]; omega)
      have HDG : Hid (digit (xs.getD k 0) = true) := HRD.out k hkr
      generalize xs.getD k 0 = c at *
      have hkl : k < len := by omega
      go_wp2_with fail
      refine (isDigit_is c true w1 HDG).mono ?_
      rintro e w' ⟨rfl, hw⟩
      obtain rfl := hw.symm
      go_wp2
      go_round
      case rel => exact ⟨k + 1, by omega, by go_num⟩
      case measure => simp [intOf]; omega
    have ek : k = r := by omega
    subst ek
    by_cases hkl : k < len
    · have hc := hrow1.cell (i := k) (by rw [HCNT.out]; omega)
      have HDG : Hid (digit (xs.getD k 0) = false) := HRS.out hkl
      generalize xs.getD k 0 = c at *
      go_wp2_with fail
      refine (isDigit_is c false w1 HDG).mono ?_
      rintro e w' ⟨rfl, hw⟩
      obtain rfl := hw.symm
      clear hw
      have hgood := HG.out
      have hLl := HLl.out
      have hz : ((k : Int) == 0) = false := beq_eq_false_iff_ne.2 (by omega)
      have hd18 : decide (18 < (k : Int)) = false := decide_eq_false (by omega)
      have hc0 := hrow1.cell (i := 0) (by rw [HCNT.out]; omega)
      have h0l : 0 < len := by omega
      have hkk : ((k : Int) != (k : Int)) = false := by simp
      have hv0 : ¬ ((v : Int) < 0) := by omega
      have hHd : Hid ((xs.getD 0 0 = 48) → ¬ 1 < k) := fun h h' => hgood ⟨h, h'⟩
      clear hgood
      generalize hx0 : xs.getD 0 0 = x0 at hc0 hHd
      clear hx0
      by_cases h48 : x0 = 48
      · have h48b : (x0 == 48) = true := beq_iff_eq.2 h48
        have hd1 : decide (1 < (k : Int)) = false := decide_eq_false (by have := hHd.out h48; omega)
        clear h48
        go_wp2_with fail
        refine (decimal_list v hv w1 L HL).mono ?_
        intro e w2 hD
        obtain ⟨N, rfl, hN, hrow2, hbel2⟩ := hD.parts
        have HLL : Hid (L.length = k) := hLl
        clear hD
        rw [HLL.out]
        have hz1 := hbel1.size
        have hlt1 := hrow1.lt
        have hrow1' : RowAt w2 w.heap.size 5 xs := hrow1.below hbel2 hlt1
        have hbel12 : Below w.heap.size w w2 := hbel1.trans (hbel2.mono hz1)
        go_wp2_with fail
        go_loopw [8] (fun i wr => ∃ j q : Nat, j ≤ k ∧ i = .int .i64 j ∧ wr = w2.drewN q) (fun i _ => k - (intOf i).toNat)
        case atStart => exact ⟨0, 0, Nat.zero_le _, rfl, rfl⟩
        case round =>
          obtain ⟨j, q, hj, rfl, rfl⟩ := hrel
          by_cases hjk : j < k
          · have hcA := hrow2.cell (i := j) (by rw [HLL.out]; exact hjk)
            have hcB := hrow1'.cell (i := j) (by rw [HCNT.out]; omega)
            rw [HLX.out j hjk] at hcA
            generalize xs.getD j 0 = y at *
            have hyy : (y != y) = false := by simp
            have hj1 : (j : Int) < (k : Int) := by omega
            have hj2 : (j : Int) < (len : Int) := by omega
            go_wp2_with fail
            go_quiet (fail)
            go_wp2
            go_roundw
            case rel => exact ⟨j + 1, _, by omega, by go_num, rfl⟩
            case measure => simp [intOf]; omega
          · go_wp2
            go_ret
            exact ⟨rfl, below_drewN hbel12 _⟩
      · have h48b : (x0 == 48) = false := beq_eq_false_iff_ne.2 h48
        clear h48
        go_wp2_with fail
        refine (decimal_list v hv w1 L HL).mono ?_
        intro e w2 hD
        obtain ⟨N, rfl, hN, hrow2, hbel2⟩ := hD.parts
        have HLL : Hid (L.length = k) := hLl
        clear hD
        rw [HLL.out]
        have hz1 := hbel1.size
        have hlt1 := hrow1.lt
        have hrow1' : RowAt w2 w.heap.size 5 xs := hrow1.below hbel2 hlt1
        have hbel12 : Below w.heap.size w w2 := hbel1.trans (hbel2.mono hz1)
        go_wp2_with fail
        go_loopw [8] (fun i wr => ∃ j q : Nat, j ≤ k ∧ i = .int .i64 j ∧ wr = w2.drewN q) (fun i _ => k - (intOf i).toNat)
        case atStart => exact ⟨0, 0, Nat.zero_le _, rfl, rfl⟩
        case round =>
          obtain ⟨j, q, hj, rfl, rfl⟩ := hrel
          by_cases hjk : j < k
          · have hcA := hrow2.cell (i := j) (by rw [HLL.out]; exact hjk)
            have hcB := hrow1'.cell (i := j) (by rw [HCNT.out]; omega)
            rw [HLX.out j hjk] at hcA
            generalize xs.getD j 0 = y at *
            have hyy : (y != y) = false := by simp
            have hj1 : (j : Int) < (k : Int) := by omega
            have hj2 : (j : Int) < (len : Int) := by omega
            go_wp2_with fail
            go_quiet (fail)
            go_wp2
            go_roundw
            case rel => exact ⟨j + 1, _, by omega, by go_num, rfl⟩
            case measure => simp [intOf]; omega
          · go_wp2
            go_ret
            exact ⟨rfl, below_drewN hbel12 _⟩
    · have hkl' : decide ((k : Int) < (len : Int)) = false := decide_eq_false (by omega)
      have hgood := HG.out
      have hLl := HLl.out
      have hz : ((k : Int) == 0) = false := beq_eq_false_iff_ne.2 (by omega)
      have hd18 : decide (18 < (k : Int)) = false := decide_eq_false (by omega)
      have hc0 := hrow1.cell (i := 0) (by rw [HCNT.out]; omega)
      have h0l : 0 < len := by omega
      have hkk : ((k : Int) != (k : Int)) = false := by simp
      have hv0 : ¬ ((v : Int) < 0) := by omega
      have hHd : Hid ((xs.getD 0 0 = 48) → ¬ 1 < k) := fun h h' => hgood ⟨h, h'⟩
      clear hgood
      generalize hx0 : xs.getD 0 0 = x0 at hc0 hHd
      clear hx0
      by_cases h48 : x0 = 48
      · have h48b : (x0 == 48) = true := beq_iff_eq.2 h48
        have hd1 : decide (1 < (k : Int)) = false := decide_eq_false (by have := hHd.out h48; omega)
        clear h48
        go_wp2_with fail
        refine (decimal_list v hv w1 L HL).mono ?_
        intro e w2 hD
        obtain ⟨N, rfl, hN, hrow2, hbel2⟩ := hD.parts
        have HLL : Hid (L.length = k) := hLl
        clear hD
        rw [HLL.out]
        have hz1 := hbel1.size
        have hlt1 := hrow1.lt
        have hrow1' : RowAt w2 w.heap.size 5 xs := hrow1.below hbel2 hlt1
        have hbel12 : Below w.heap.size w w2 := hbel1.trans (hbel2.mono hz1)
        go_wp2_with fail
        go_loopw [8] (fun i wr => ∃ j q : Nat, j ≤ k ∧ i = .int .i64 j ∧ wr = w2.drewN q) (fun i _ => k - (intOf i).toNat)
        case atStart => exact ⟨0, 0, Nat.zero_le _, rfl, rfl⟩
        case round =>
          obtain ⟨j, q, hj, rfl, rfl⟩ := hrel
          by_cases hjk : j < k
          · have hcA := hrow2.cell (i := j) (by rw [HLL.out]; exact hjk)
            have hcB := hrow1'.cell (i := j) (by rw [HCNT.out]; omega)
            rw [HLX.out j hjk] at hcA
            generalize xs.getD j 0 = y at *
            have hyy : (y != y) = false := by simp
            have hj1 : (j : Int) < (k : Int) := by omega
            have hj2 : (j : Int) < (len : Int) := by omega
            go_wp2_with fail
            go_quiet (fail)
            go_wp2
            go_roundw
            case rel => exact ⟨j + 1, _, by omega, by go_num, rfl⟩
            case measure => simp [intOf]; omega
          · go_wp2
            go_ret
            exact ⟨rfl, below_drewN hbel12 _⟩
      · have h48b : (x0 == 48) = false := beq_eq_false_iff_ne.2 h48
        clear h48
        go_wp2_with fail
        refine (decimal_list v hv w1 L HL).mono ?_
        intro e w2 hD
        obtain ⟨N, rfl, hN, hrow2, hbel2⟩ := hD.parts
        have HLL : Hid (L.length = k) := hLl
        clear hD
        rw [HLL.out]
        have hz1 := hbel1.size
        have hlt1 := hrow1.lt
        have hrow1' : RowAt w2 w.heap.size 5 xs := hrow1.below hbel2 hlt1
        have hbel12 : Below w.heap.size w w2 := hbel1.trans (hbel2.mono hz1)
        go_wp2_with fail
        go_loopw [8] (fun i wr => ∃ j q : Nat, j ≤ k ∧ i = .int .i64 j ∧ wr = w2.drewN q) (fun i _ => k - (intOf i).toNat)
        case atStart => exact ⟨0, 0, Nat.zero_le _, rfl, rfl⟩
        case round =>
          obtain ⟨j, q, hj, rfl, rfl⟩ := hrel
          by_cases hjk : j < k
          · have hcA := hrow2.cell (i := j) (by rw [HLL.out]; exact hjk)
            have hcB := hrow1'.cell (i := j) (by rw [HCNT.out]; omega)
            rw [HLX.out j hjk] at hcA
            generalize xs.getD j 0 = y at *
            have hyy : (y != y) = false := by simp
            have hj1 : (j : Int) < (k : Int) := by omega
            have hj2 : (j : Int) < (len : Int) := by omega
            go_wp2_with fail
            go_quiet (fail)
            go_wp2
            go_roundw
            case rel => exact ⟨j + 1, _, by omega, by go_num, rfl⟩
            case measure => simp [intOf]; omega
          · go_wp2
            go_ret
            exact ⟨rfl, below_drewN hbel12 _⟩

/-- The first law, whatever the slice. -/
theorem law1_any (a : Option Addr) (len cap : Nat) (xs : List Int) (w : World) (hm : len ≤ 9223372036854775807) (hr : len ≤ 1048576 → Row w a len xs) :
    Calls Trym.prog 3 #[.slice a len cap] w fun e w' => e = .returned (.bool true) ∧ Below w.heap.size w w' := by
  by_cases hl : 1048576 < len
  · exact law1_long a len cap w hm hl
  have hl' : len ≤ 1048576 := by omega
  have hr' := hr hl'
  cases a with
  | none =>
    have h0 : len = 0 := by
      by_cases h : 0 < len
      · obtain ⟨b, off, e, _⟩ := hr'.cells 0 h
        cases e
      · omega
    subst h0
    exact law1_nil cap w
  | some x =>
    by_cases hbad : run xs = 0 ∨ 18 < run xs ∨ (xs.getD 0 0 = 48 ∧ 1 < run xs)
    · exact law1_bad x len cap xs w hr' hl' hbad
    · exact law1_good x len cap xs w hr' hl' (by omega) (by omega) (fun h => hbad (Or.inr (Or.inr h)))

end Go.Proofs.Qxb6619122aMods.Num
