/-
  Seat b6619122aM: words for the walks over rows of bytes; the walks of number (11), ZZnumber (6), zzIsDigit (7).
-/
import Derived.Test.Qxb6619122aModsRows
import Derived.Test.Qxb6619122aModsNumPlain
import Derived.WalkKit
import Derived.ProofKit
import Derived.WalkSpells
import Derived.OpenShut
namespace Go.Proofs.Qxb6619122aMods.Num
open Go.RowKit
set_option linter.unusedVariables false

/-- A slice of bytes: its elements are xs. -/
structure Row (w : World) (a : Option Addr) (len : Nat) (xs : List Int) : Prop where
  count : xs.length = len
  short : len ≤ 140737488355328
  byte : ∀ i, i < len → 0 ≤ xs.getD i 0 ∧ xs.getD i 0 ≤ 255
  cells : ∀ i, i < len → ∃ b off, a = some ⟨b, off, none⟩ ∧ w.cell? ⟨b, off + i, none⟩ = some (.int .u8 (xs.getD i 0))

theorem Row.below {B : Nat} {w w' : World} {a : Option Addr} {len : Nat} {xs : List Int} (h : Row w a len xs) (hb : Below B w w') (hB : w.heap.size ≤ B) : Row w' a len xs :=
  ⟨h.count, h.short, h.byte, fun i hi => by
    obtain ⟨b, off, e, hc⟩ := h.cells i hi
    exact ⟨b, off, e, (hb.cell (Nat.lt_of_lt_of_le (World.block_lt_of_cell? _ _ hc) hB)).trans hc⟩⟩

theorem ret_two {a b c d : Int} (h1 : a = c) (h2 : b = d) : Ending.returned (.tuple #[.int .i64 a, .int .i64 b]) = .returned (.tuple #[.int .i64 c, .int .i64 d]) := by rw [h1, h2]
theorem ret_bool {a b : Bool} (h : a = b) : Ending.returned (.bool a) = .returned (.bool b) := by rw [h]

theorem isDigit_any (c : Int) (w : World) : Calls Trym.prog 7 #[.int .u8 c] w fun e w' => e = .returned (.bool (digit c)) ∧ w' = w := by
  by_cases h1 : 48 ≤ c
  · by_cases h2 : c ≤ 57
    · have HD : Hid (digit c = true) := (digit_iff c).2 ⟨h1, h2⟩
      go_enter Trym.func7, Trym.ntmps7
      go_wp2
      go_ret
      exact ⟨ret_bool (by rw [HD.out]), rfl⟩
    · have HD : Hid (digit c = false) := (digit_no c).2 (by omega)
      go_enter Trym.func7, Trym.ntmps7
      go_wp2
      go_ret
      exact ⟨ret_bool (by rw [HD.out]), rfl⟩
  · have HD : Hid (digit c = false) := (digit_no c).2 (by omega)
    go_enter Trym.func7, Trym.ntmps7
    go_wp2
    go_ret
    exact ⟨ret_bool HD.out.symm, rfl⟩

set_option maxHeartbeats 1000000 in
theorem number_any (a : Option Addr) (len cap : Nat) (xs : List Int) (w : World) (hr : Row w a len xs) :
    Calls Trym.prog 11 #[.slice a len cap] w fun e w' => e = .returned (.tuple #[.int .i64 (num xs).1, .int .i64 (num xs).2]) ∧ w' = w := by
  have hlen := hr.short
  have hcnt := hr.count
  have HC : Hid (xs.length = len) := hcnt
  clear hcnt
  go_enter Trym.func11, Trym.ntmps11
  go_wp2
  go_loop [2, 3, 8] (fun v d i => ∃ (k : Nat) (V : Int), k ≤ len ∧ i = .int .i64 k ∧ d = .int .i64 k ∧ v = .int .i64 V ∧ Hid (k ≤ 18 → V = value (xs.take k)) ∧ Hid (∀ j, j < k → digit (xs.getD j 0) = true)) (fun _ _ i => len - (intOf i).toNat)
  case atStart => exact ⟨0, 0, Nat.zero_le _, rfl, rfl, rfl, fun _ => by simp [value], fun j hj => absurd hj (Nat.not_lt_zero _)⟩
  case round =>
    obtain ⟨k, V, hkl, rfl, rfl, rfl, HV, HD⟩ := hrel
    by_cases hlt : k < len
    · obtain ⟨b, off, rfl, hc⟩ := hr.cells k hlt
      obtain ⟨hb0, hb1⟩ := hr.byte k hlt
      generalize hck : xs.getD k 0 = c at *
      have HK : Hid (xs.getD k 0 = c) := hck
      clear hck
      by_cases hd : 48 ≤ c ∧ c ≤ 57
      · have hdc : Hid (digit (xs.getD k 0) = true) := by rw [HK.out]; exact (digit_iff c).2 hd
        obtain ⟨h48, h57⟩ := hd
        by_cases h18 : k < 18
        · have hV := HV.out (by omega)
          have hvl := value_take_lt (xs := xs) (k := k) HD.out (by rw [HC.out]; omega)
          have hpw : 10 ^ k ≤ 10 ^ 17 := Nat.pow_le_pow_right (by omega) (by omega)
          have hvl2 : value (xs.take k) < 100000000000000000 := by omega
          have hvs := value_take_succ (xs := xs) (k := k) (by rw [HC.out]; exact hlt)
          have HVS : Hid (V * 10 + (c - 48) = ((value (xs.take (k + 1)) : Nat) : Int)) := by rw [hvs, HK.out]; show _ = _; omega
          have hV0 : 0 ≤ V := by omega
          have hV1 : V < 100000000000000000 := by omega
          clear hV hvl hpw hvl2 hvs
          go_wp2
          go_round
          case rel => exact ⟨k + 1, _, by omega, by go_num, by go_num, rfl, fun _ => HVS.out, fun j hj => by
            by_cases e : j = k
            · subst e; exact hdc.out
            · exact HD.out j (by omega)⟩
          case measure => simp [intOf]; omega
        · go_wp2
          go_round
          case rel => exact ⟨k + 1, _, by omega, by go_num, by go_num, rfl, fun h => by omega, fun j hj => by
            by_cases e : j = k
            · subst e; exact hdc.out
            · exact HD.out j (by omega)⟩
          case measure => simp [intOf]; omega
      · have HR : Hid (run xs = k) := run_is HD.out (fun _ => by rw [HK.out]; exact (digit_no c).2 hd) (by rw [HC.out]; omega)
        have hov : 9 < (c - 48) % 256 := by omega
        clear hd
        by_cases h0 : k = 0
        · have hz : ((k : Int) == 0) = true := beq_iff_eq.2 (by omega)
          have HN : Hid (num xs = (0, 0)) := num_bad (Or.inl (by rw [HR.out]; exact h0))
          clear h0
          go_wp2
          go_ret2
          exact ⟨ret_two (by rw [HN.out]; rfl) (by rw [HN.out]; rfl), rfl⟩
        have hz : ((k : Int) == 0) = false := beq_eq_false_iff_ne.2 (by omega)
        by_cases h18 : 18 < k
        · have HN : Hid (num xs = (0, 0)) := num_bad (Or.inr (Or.inl (by rw [HR.out]; exact h18)))
          have hd18 : decide (18 < (k : Int)) = true := decide_eq_true (by omega)
          clear h0
          go_wp2
          go_ret2
          exact ⟨ret_two (by rw [HN.out]; rfl) (by rw [HN.out]; rfl), rfl⟩
        have hd18 : decide (18 < (k : Int)) = false := decide_eq_false (by omega)
        have hle18 : k ≤ 18 := by omega
        obtain ⟨b', off', e', hc0⟩ := hr.cells 0 (by omega)
        cases e'
        rw [Nat.add_zero] at hc0
        have h0l : 0 < len := by omega
        generalize hx0 : xs.getD 0 0 = x0 at hc0
        have HX0 : Hid (xs.getD 0 0 = x0) := hx0
        clear hx0
        by_cases h48 : x0 = 48
        · have h48b : (x0 == 48) = true := beq_iff_eq.2 h48
          by_cases h1 : 1 < k
          · have HN : Hid (num xs = (0, 0)) := num_bad (Or.inr (Or.inr ⟨by rw [HX0.out]; exact h48, by rw [HR.out]; exact h1⟩))
            have hd1 : decide (1 < (k : Int)) = true := decide_eq_true (by omega)
            clear h48 h0 h18
            go_wp2
            go_ret2
            exact ⟨ret_two (by rw [HN.out]; rfl) (by rw [HN.out]; rfl), rfl⟩
          · have HN : Hid (num xs = (value (xs.take k), k)) := num_good HR.out (by omega) hle18 (fun h => absurd h.2 h1)
            have HVV : Hid (V = value (xs.take k)) := HV.out hle18
            have hd1 : decide (1 < (k : Int)) = false := decide_eq_false (by omega)
            clear h48 h0 h18 h1
            go_wp2
            go_ret2
            exact ⟨ret_two (by rw [HN.out]; exact HVV.out) (by rw [HN.out]), rfl⟩
        · have h48b : (x0 == 48) = false := beq_eq_false_iff_ne.2 h48
          have HN : Hid (num xs = (value (xs.take k), k)) := num_good HR.out (by omega) hle18 (fun h => h48 (by rw [← HX0.out]; exact h.1))
          have HVV : Hid (V = value (xs.take k)) := HV.out hle18
          clear h48 h0 h18
          go_wp2
          go_ret2
          exact ⟨ret_two (by rw [HN.out]; exact HVV.out) (by rw [HN.out]), rfl⟩
    · have HR : Hid (run xs = k) := run_is HD.out (fun h => by rw [HC.out] at h; exact absurd h hlt) (by rw [HC.out]; omega)
      by_cases h0 : k = 0
      · have hz : ((k : Int) == 0) = true := beq_iff_eq.2 (by omega)
        have HN : Hid (num xs = (0, 0)) := num_bad (Or.inl (by rw [HR.out]; exact h0))
        clear h0
        go_wp2
        go_ret2
        exact ⟨ret_two (by rw [HN.out]; rfl) (by rw [HN.out]; rfl), rfl⟩
      have hz : ((k : Int) == 0) = false := beq_eq_false_iff_ne.2 (by omega)
      by_cases h18 : 18 < k
      · have HN : Hid (num xs = (0, 0)) := num_bad (Or.inr (Or.inl (by rw [HR.out]; exact h18)))
        have hd18 : decide (18 < (k : Int)) = true := decide_eq_true (by omega)
        clear h0
        go_wp2
        go_ret2
        exact ⟨ret_two (by rw [HN.out]; rfl) (by rw [HN.out]; rfl), rfl⟩
      have hd18 : decide (18 < (k : Int)) = false := decide_eq_false (by omega)
      have hle18 : k ≤ 18 := by omega
      obtain ⟨b, off, rfl, hc0⟩ := hr.cells 0 (by omega)
      rw [Nat.add_zero] at hc0
      have h0l : 0 < len := by omega
      generalize hx0 : xs.getD 0 0 = x0 at hc0
      have HX0 : Hid (xs.getD 0 0 = x0) := hx0
      clear hx0
      by_cases h48 : x0 = 48
      · have h48b : (x0 == 48) = true := beq_iff_eq.2 h48
        by_cases h1 : 1 < k
        · have HN : Hid (num xs = (0, 0)) := num_bad (Or.inr (Or.inr ⟨by rw [HX0.out]; exact h48, by rw [HR.out]; exact h1⟩))
          have hd1 : decide (1 < (k : Int)) = true := decide_eq_true (by omega)
          clear h48 h0 h18
          go_wp2
          go_ret2
          exact ⟨ret_two (by rw [HN.out]; rfl) (by rw [HN.out]; rfl), rfl⟩
        · have HN : Hid (num xs = (value (xs.take k), k)) := num_good HR.out (by omega) hle18 (fun h => absurd h.2 h1)
          have HVV : Hid (V = value (xs.take k)) := HV.out hle18
          have hd1 : decide (1 < (k : Int)) = false := decide_eq_false (by omega)
          clear h48 h0 h18 h1
          go_wp2
          go_ret2
          exact ⟨ret_two (by rw [HN.out]; exact HVV.out) (by rw [HN.out]), rfl⟩
      · have h48b : (x0 == 48) = false := beq_eq_false_iff_ne.2 h48
        have HN : Hid (num xs = (value (xs.take k), k)) := num_good HR.out (by omega) hle18 (fun h => h48 (by rw [← HX0.out]; exact h.1))
        have HVV : Hid (V = value (xs.take k)) := HV.out hle18
        clear h48 h0 h18
        go_wp2
        go_ret2
        exact ⟨ret_two (by rw [HN.out]; exact HVV.out) (by rw [HN.out]), rfl⟩

theorem zznumber_any (a : Option Addr) (len cap : Nat) (xs : List Int) (w : World) (hr : Row w a len xs) :
    Calls Trym.prog 6 #[.slice a len cap] w fun e w' => e = .returned (.tuple #[.int .i64 (num xs).1, .int .i64 (num xs).2]) ∧ w' = w := by
  go_enter Trym.func6, Trym.ntmps6
  go_wp2_with fail
  refine (number_any a len cap xs w hr).mono ?_
  rintro e w' ⟨rfl, hw⟩
  obtain rfl := hw.symm
  go_wp2
  go_ret2
  exact ⟨rfl, rfl⟩

end Go.Proofs.Qxb6619122aMods.Num
