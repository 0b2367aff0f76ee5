/-
  The walks of seat b6617174aM: each Go function on the road computes a plain function.
-/
import Derived.Test.Qxb6617174aModsRows
import Derived.Test.Qxb6617174aModsToolPlain
import Derived.WalkKit
import Derived.ProofKit
import Derived.WalkSpells
namespace Go.Proofs.Qxb6617174aMods.Tool
open Go.RowKit
set_option linter.unusedVariables false

theorem ret_bool {a b : Bool} (h : a = b) : Ending.returned (.bool a) = .returned (.bool b) := by rw [h]

theorem or_table : ∀ n : Fin 256, ((decide (97 ≤ n.val) && decide (n.val ≤ 122)) || (decide (65 ≤ n.val) && decide (n.val ≤ 90))) =
    (decide (97 ≤ bits BinOp.or IntKind.u8 (n.val : Int) 32) && decide (bits BinOp.or IntKind.u8 (n.val : Int) 32 ≤ 122)) := by decide +kernel

theorem or_let (c : UInt8) : isLet c = (decide (97 ≤ bits BinOp.or IntKind.u8 (c.toNat : Int) 32) && decide (bits BinOp.or IntKind.u8 (c.toNat : Int) 32 ≤ 122)) :=
  or_table ⟨c.toNat, c.toNat_lt⟩

theorem or_yes (c : UInt8) (h1 : 97 ≤ bits BinOp.or IntKind.u8 (c.toNat : Int) 32) (h2 : bits BinOp.or IntKind.u8 (c.toNat : Int) 32 ≤ 122) : isLet c = true := by
  rw [or_let]; simp [h1, h2]
theorem or_no (c : UInt8) (h : bits BinOp.or IntKind.u8 (c.toNat : Int) 32 < 97 ∨ 122 < bits BinOp.or IntKind.u8 (c.toNat : Int) 32) : isLet c = false := by
  rw [or_let, Bool.and_eq_false_iff]
  rcases h with h | h
  · exact Or.inl (decide_eq_false (by omega))
  · exact Or.inr (decide_eq_false (by omega))

set_option maxHeartbeats 400000 in
theorem model_any (s : ByteArray) (w : World) (hs : s.size ≤ maxLen) :
    Calls Trym.prog 7 #[.string s] w fun e w' => e = .returned (.bool (tool s)) ∧ w' = w := by
  unfold maxLen at hs
  by_cases h0 : s.size = 0
  · have hz : ((s.size : Int) == 0) = true := by simp [h0]
    have HT : Hid (tool s = false) := tool_of_empty s h0
    clear h0
    go_enter Trym.func7, Trym.ntmps7
    go_wp2
    go_ret
    exact ⟨ret_bool HT.out.symm, rfl⟩
  have hz : ((s.size : Int) == 0) = false := by simp [h0]
  have h1 : 1 ≤ s.size := by omega
  clear h0
  by_cases h64 : 64 < s.size
  · have HT : Hid (tool s = false) := tool_of_long s h64
    go_enter Trym.func7, Trym.ntmps7
    go_wp2
    go_ret
    exact ⟨ret_bool HT.out.symm, rfl⟩
  have h64' : s.size ≤ 64 := by omega
  clear h64
  go_enter Trym.func7, Trym.ntmps7
  go_wp2
  go_loop [3] (fun i => ∃ k : Nat, k ≤ s.size ∧ i = .int .i64 k ∧ Hid (upTo s k = true)) (fun i => s.size - (intOf i).toNat)
  case atStart => exact ⟨0, Nat.zero_le _, rfl, upTo_zero s⟩
  case round =>
    obtain ⟨k, hk, rfl, hu⟩ := hrel
    by_cases hlt : k < s.size
    · go_wp2
      · go_ret
        exact ⟨ret_bool (tool_of_bad s k hlt (or_no _ (by omega))).symm, rfl⟩
      · go_round
        case rel => exact ⟨k + 1, by omega, by go_num, upTo_succ s k hlt hu.out (or_yes _ (by omega) (by omega))⟩
        case measure => simp [intOf]; omega
      · go_ret
        exact ⟨ret_bool (tool_of_bad s k hlt (or_no _ (by omega))).symm, rfl⟩
    · go_wp2
      go_ret
      have e : k = s.size := by omega
      subst e
      exact ⟨ret_bool (tool_of_all s h1 h64' hu).symm, rfl⟩

theorem let_yes (c : UInt8) (h : (97 ≤ (c.toNat : Int) ∧ (c.toNat : Int) ≤ 122) ∨ (65 ≤ (c.toNat : Int) ∧ (c.toNat : Int) ≤ 90)) : isLet c = true := by
  unfold isLet
  rcases h with ⟨h1, h2⟩ | ⟨h1, h2⟩
  · rw [decide_eq_true (by omega : 97 ≤ c.toNat), decide_eq_true (by omega : c.toNat ≤ 122)]; rfl
  · rw [decide_eq_true (by omega : 65 ≤ c.toNat), decide_eq_true (by omega : c.toNat ≤ 90)]; simp
theorem let_no (c : UInt8) (h1 : ¬ (97 ≤ (c.toNat : Int) ∧ (c.toNat : Int) ≤ 122)) (h2 : ¬ (65 ≤ (c.toNat : Int) ∧ (c.toNat : Int) ≤ 90)) : isLet c = false := by
  unfold isLet
  rw [Bool.or_eq_false_iff, Bool.and_eq_false_iff, Bool.and_eq_false_iff, decide_eq_false_iff_not, decide_eq_false_iff_not, decide_eq_false_iff_not, decide_eq_false_iff_not]
  omega

theorem grown_iter (w : World) (s : ByteArray) (p : Nat) : Grown w (w.iter s p) := by
  refine ⟨World.keptBut_alloc _ _ _, fun a => ?_, by show w.heap.size ≤ (w.heap.push _).size; simp⟩
  by_cases h : a.block = w.heap.size
  · have e1 : (w.iter s p).heap[a.block]? = some (.stringIter s p) := by rw [h]; exact World.iter_heap w s p
    have e2 : w.heap[a.block]? = none := by rw [h]; simp
    simp [World.frozen?, e1, e2]
  · exact World.frozen?_alloc_old _ _ _ h

theorem grown_trans {a b c : World} (h : Grown a b) (k : Grown b c) : Grown a c :=
  ⟨World.keptBut_trans h.1 k.1, fun x => (k.2.1 x).trans (h.2.1 x), Nat.le_trans h.2.2 k.2.2⟩

set_option maxHeartbeats 400000 in
theorem is_any (s : ByteArray) (w : World) (hs : s.size ≤ maxLen) :
    Calls Trym.prog 11 #[.string s] w fun e w' => e = .returned (.bool (tool s)) ∧ Grown w w' := by
  unfold maxLen at hs
  by_cases h0 : s.size = 0
  · have hz : s.toList.isEmpty = true := by rw [ByteArray.toList_eq]; simp; first | exact Array.eq_empty_of_size_eq_zero h0 | exact fun e => h0 (by rw [ByteArray.size, e]; rfl)
    have HT : Hid (tool s = false) := tool_of_empty s h0
    clear h0
    go_enter Trym.func11, Trym.ntmps11
    go_wp2
    go_ret
    exact ⟨ret_bool HT.out.symm, Grown.refl _⟩
  have hz : s.toList.isEmpty = false := by rw [ByteArray.toList_eq]; simp; first | exact Array.eq_empty_of_size_eq_zero h0 | exact fun e => h0 (by rw [ByteArray.size, e]; rfl)
  have h1 : 1 ≤ s.size := by omega
  clear h0
  by_cases h64 : 64 < s.size
  · have HT : Hid (tool s = false) := tool_of_long s h64
    go_enter Trym.func11, Trym.ntmps11
    go_wp2
    go_ret
    exact ⟨ret_bool HT.out.symm, Grown.refl _⟩
  have h64' : s.size ≤ 64 := by omega
  clear h64
  go_enter Trym.func11, Trym.ntmps11
  go_wp2
  go_loopw [4] (fun _ w' => ∃ k : Nat, k ≤ s.size ∧ w' = w.iter s k ∧ Hid (upTo s k = true)) (fun _ w' => s.size - w'.iterPos w.heap.size)
  case atStart => exact ⟨0, Nat.zero_le _, rfl, upTo_zero s⟩
  case round =>
    obtain ⟨k, hk, rfl, hu⟩ := hrel
    by_cases hlt : k < s.size
    · by_cases hasc : s[k].toNat < 128
      · have hnx := fun ty => run_next_ascii (P := Trym.prog) w s k ty hlt hasc
        by_cases hlo : 97 ≤ (s[k].toNat : Int) ∧ (s[k].toNat : Int) ≤ 122
        · have HL : Hid (isLet s[k] = true) := let_yes _ (Or.inl hlo)
          obtain ⟨h97, h122⟩ := hlo
          go_wp2
          go_roundw
          case rel => exact ⟨k + 1, by omega, rfl, upTo_succ s k hlt hu.out HL.out⟩
          case measure => simp; omega
        by_cases hup : 65 ≤ (s[k].toNat : Int) ∧ (s[k].toNat : Int) ≤ 90
        · have HL : Hid (isLet s[k] = true) := let_yes _ (Or.inr hup)
          clear hlo
          obtain ⟨h65, h90⟩ := hup
          have h97 : ¬ 97 ≤ (s[k].toNat : Int) := by omega
          go_wp2
          go_roundw
          case rel => exact ⟨k + 1, by omega, rfl, upTo_succ s k hlt hu.out HL.out⟩
          case measure => simp; omega
        have HL : Hid (isLet s[k] = false) := let_no _ hlo hup
        by_cases h65 : (s[k].toNat : Int) < 65
        · clear hlo hup
          have h97 : (s[k].toNat : Int) < 97 := by omega
          go_wp2
          go_ret
          exact ⟨ret_bool (tool_of_bad s k hlt HL.out).symm, grown_iter _ _ _⟩
        have d90 : decide ((s[k].toNat : Int) ≤ 90) = false := decide_eq_false (by omega)
        have g65 : 65 ≤ (s[k].toNat : Int) := by omega
        by_cases h97 : (s[k].toNat : Int) < 97
        · clear hlo hup h65
          go_wp2
          go_ret
          exact ⟨ret_bool (tool_of_bad s k hlt HL.out).symm, grown_iter _ _ _⟩
        have d122 : decide ((s[k].toNat : Int) ≤ 122) = false := decide_eq_false (by omega)
        have g97 : 97 ≤ (s[k].toNat : Int) := by omega
        clear hlo hup h65 h97
        go_wp2
        go_ret
        exact ⟨ret_bool (tool_of_bad s k hlt HL.out).symm, grown_iter _ _ _⟩
      · obtain ⟨hd, hdw⟩ := decode_high s k hlt (by omega)
        have HL : Hid (isLet s[k] = false) := let_no _ (by omega) (by omega)
        have hnx := fun ty => run_next_any (P := Trym.prog) w s k ty hlt
        generalize (Utf8.decode s k).1 = r at *
        generalize (Utf8.decode s k).2 = wd at *
        have d90 : decide ((r : Int) ≤ 90) = false := decide_eq_false (by omega)
        have d122 : decide ((r : Int) ≤ 122) = false := decide_eq_false (by omega)
        have g97 : 97 ≤ (r : Int) := by omega
        have g65 : 65 ≤ (r : Int) := by omega
        clear hd hasc
        go_wp2
        go_ret
        exact ⟨ret_bool (tool_of_bad s k hlt HL.out).symm, grown_iter _ _ _⟩
    · have hnx := fun ty => run_next_end (P := Trym.prog) w s k ty hlt
      go_wp2
      go_ret
      have e : k = s.size := by omega
      subst e
      exact ⟨ret_bool (tool_of_all s h1 h64' hu).symm, grown_iter _ _ _⟩

theorem zzis_any (s : ByteArray) (w : World) (hs : s.size ≤ maxLen) :
    Calls Trym.prog 6 #[.string s] w fun e w' => e = .returned (.bool (tool s)) ∧ Grown w w' := by
  go_enter Trym.func6, Trym.ntmps6
  go_wp2_with (go_at_call 11; refine (is_any _ _ hs).mono ?_; rintro e w' ⟨rfl, hb⟩)
  go_ret
  exact ⟨rfl, hb⟩

theorem bytes_no (a b : ByteArray) (w : World) (ha : a.size ≤ maxLen) (hb : b.size ≤ maxLen) (h : 1048576 < a.size + b.size) :
    Calls Trym.prog 5 #[.string a, .string b] w fun e w' => e = .returned (.bool false) ∧ w' = w := by
  unfold maxLen at ha hb
  by_cases h1 : 1048576 < a.size
  · go_enter Trym.func5, Trym.ntmps5
    go_wp2
    go_ret
    exact ⟨rfl, rfl⟩
  have g1 : a.size ≤ 1048576 := by omega
  by_cases h2 : 1048576 < b.size
  · go_enter Trym.func5, Trym.ntmps5
    go_wp2
    go_ret
    exact ⟨rfl, rfl⟩
  have g2 : b.size ≤ 1048576 := by omega
  go_enter Trym.func5, Trym.ntmps5
  go_wp2
  go_ret
  exact ⟨rfl, rfl⟩

theorem bytes_yes (a b : ByteArray) (w : World) (h : a.size + b.size ≤ 1048576) :
    Calls Trym.prog 5 #[.string a, .string b] w fun e w' => e = .returned (.bool true) ∧ w' = w := by
  go_enter Trym.func5, Trym.ntmps5
  go_wp2
  go_ret
  exact ⟨rfl, rfl⟩

theorem zzis_is (s : ByteArray) (t : Bool) (w : World) (hs : s.size ≤ maxLen) (ht : Hid (tool s = t)) :
    Calls Trym.prog 6 #[.string s] w fun e w' => e = .returned (.bool t) ∧ Grown w w' := by
  have h := zzis_any s w hs
  rw [ht.out] at h
  exact h

theorem model_is (s : ByteArray) (t : Bool) (w : World) (hs : s.size ≤ maxLen) (ht : Hid (tool s = t)) :
    Calls Trym.prog 7 #[.string s] w fun e w' => e = .returned (.bool t) ∧ w' = w := by
  have h := model_any s w hs
  rw [ht.out] at h
  exact h

theorem isEmpty_size (a : ByteArray) : a.toList.isEmpty = decide (a.size = 0) := by
  rw [ByteArray.toList_eq, Bool.eq_iff_iff, decide_eq_true_iff, List.isEmpty_iff]
  constructor
  · intro h
    have : a.data.toList.length = 0 := by rw [h]; rfl
    simpa using this
  · intro h
    rw [Array.eq_empty_of_size_eq_zero (xs := a.data) h]

end Go.Proofs.Qxb6617174aMods.Tool
