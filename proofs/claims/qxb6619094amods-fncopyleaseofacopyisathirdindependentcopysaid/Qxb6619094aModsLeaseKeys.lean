/-
  Seat b6619094aM: the walk of zzB1KeysListMeta (function 6).
-/
import Derived.Test.Qxb6619094aModsLeaseBase
import Derived.Deep.QuietTactic
import Derived.BigQuiet
namespace Go.Proofs.Qxb6619094aMods.Lease
open Go.RowKit Go.Maps Go.WideMaps
set_option linter.unusedVariables false

/-- What the premise says where it says yes. -/
structure Listed {H : Type} (len : Nat) (ks : List ByteArray) (D : DataW H) : Prop where
  hlen : len = Maps.size D
  hhas : ∀ i, i < len → Maps.has D (keyL (ks.getD i ByteArray.empty)) = true
  hup : ∀ i, i + 1 < len → Op.bytesLess (ks.getD i ByteArray.empty).toList (ks.getD (i + 1) ByteArray.empty).toList = true

theorem below_drewN {B : Nat} {a w : World} (h : Below B a w) (n : Nat) : Below B a (w.drewN n) := h.trans ⟨rfl, rfl, rfl, Nat.le_refl _, fun _ _ => rfl⟩

set_option maxHeartbeats 1000000 in
theorem keys_any {H : Type} (o : Option Nat) (n : Nat) (D : DataW H) (a : Option Addr) (len cap : Nat) (ks : List ByteArray) (w : World)
    (hm : mapIs w o n D) (hs : Maps.size D ≤ 140737488355328) (hk : IsKeys w a len ks) :
    Calls Trym.prog 6 #[.map o, .slice a len cap] w
      fun e w' => Verdict (Listed len ks D) e w w' := by
  have hl := fun ty => len_is hm ty
  have hlen := hk.short
  unfold maxLen at hlen
  by_cases h1 : len = Maps.size D
  case neg =>
    have d1 : ((len : Int) != (Maps.size D : Int)) = true := by rw [bne_iff_ne]; omega
    go_enter Trym.func6, Trym.ntmps6
    go_wp2
    go_ret
    exact Verdict.no rfl (Below.refl _ _)
  have d1 : ((len : Int) != (Maps.size D : Int)) = false := by rw [bne_eq_false_iff_eq]; omega
  have H1 : Hid (len = Maps.size D) := h1
  clear h1
  go_enter Trym.func6, Trym.ntmps6
  go_wp2
  clear d1
  go_loopw [5] (fun i wr => ∃ k q : Nat, k ≤ len ∧ i = .int .i64 k ∧ wr = w.drewN q ∧ Hid (∀ j, j < k → Maps.has D (keyL (ks.getD j ByteArray.empty)) = true) ∧
      Hid (∀ j, j + 1 < k → Op.bytesLess (ks.getD j ByteArray.empty).toList (ks.getD (j + 1) ByteArray.empty).toList = true)) (fun i _ => len - (intOf i).toNat)
  case atStart => exact ⟨0, 0, Nat.zero_le _, rfl, rfl, fun j hj => absurd hj (Nat.not_lt_zero _), fun j hj => absurd hj (Nat.not_lt_zero _)⟩
  case round =>
    obtain ⟨k, q, hkl, rfl, rfl, HH, HU⟩ := hrel
    by_cases hlt : k < len
    · obtain ⟨b, off, rfl, hc⟩ := hk.cells k hlt
      have hks := hk.sized k hlt
      generalize hsk : ks.getD k ByteArray.empty = s at *
      have HS : Hid (ks.getD k ByteArray.empty = s) := hsk
      clear hsk
      have hlk : ∀ q, (Instr.lookup 23 (.map o) (.string s) true).run Trym.prog (w.drewN q) = .ok (.tuple #[.string (val D s), .bool (Maps.has D (keyL s))]) (w.drewN q) :=
        fun q => (look_ok (w := w.drewN q) (mapIs_block hm fun _ _ => rfl) (le_maxLen hks)).1
      generalize val D s = v at *
      generalize hsb : Maps.has D (keyL s) = ok at *
      have HO : Hid (Maps.has D (keyL s) = ok) := hsb
      clear hsb
      by_cases h0 : k = 0
      · have hd : decide ((0 : Int) < (k : Int)) = false := decide_eq_false (by omega)
        have hd2 : decide (0 < k) = false := decide_eq_false (by omega)
        have H0 : Hid (k = 0) := h0
        clear h0
        cases ok
        · go_wp2_with fail
          go_quiet (fail)
          go_wp2
          go_ret
          exact Verdict.no rfl (below_drewN (Below.refl _ _) _)
        · go_wp2_with fail
          go_quiet (fail)
          go_wp2
          go_roundw
          case rel => exact ⟨k + 1, _, by omega, by go_num, rfl, fun j hj => by
            have e0 := H0.out
            obtain rfl : j = k := by omega
            rw [HS.out]; exact HO.out, fun j hj => by have e0 := H0.out; omega⟩
          case measure => simp [intOf]; omega
      · have hd : (0 : Int) < (k : Int) := by omega
        have hp1 : (0 : Int) ≤ (k : Int) - 1 := by omega
        have hp2 : (k : Int) - 1 < (len : Int) := by omega
        obtain ⟨m, rfl⟩ : ∃ m, k = m + 1 := ⟨k - 1, by omega⟩
        have et : ((m + 1 : Nat) : Int) - 1 = (m : Int) := by omega
        obtain ⟨b', off', e', hc'⟩ := hk.cells m (by omega)
        cases e'
        generalize hsk : ks.getD m ByteArray.empty = s' at *
        have HS' : Hid (ks.getD m ByteArray.empty = s') := hsk
        clear hsk
        generalize hls : Op.bytesLess s'.toList s.toList = ls at *
        have HL : Hid (Op.bytesLess s'.toList s.toList = ls) := hls
        cases ls
        · clear HL
          go_wp2_with fail
          go_quiet (fail)
          go_wp2
          go_ret
          exact Verdict.no rfl (below_drewN (below_drewN (Below.refl _ _) _) _)
        cases ok
        · go_wp2_with fail
          go_quiet (fail)
          go_wp2
          go_ret
          exact Verdict.no rfl (below_drewN (Below.refl _ _) _)
        · go_wp2_with fail
          go_quiet (fail)
          go_wp2
          go_roundw
          case rel => exact ⟨m + 1 + 1, _, by omega, by go_num, rfl, fun j hj => by
            by_cases e : j = m + 1
            · subst e; rw [HS.out]; exact HO.out
            · exact HH.out j (by omega), fun j hj => by
            by_cases e : j = m
            · subst e; rw [HS.out, HS'.out]; exact HL.out
            · exact HU.out j (by omega)⟩
          case measure => simp [intOf]; omega
    · go_wp2
      go_ret
      have ek : k = len := by omega
      subst ek
      exact Verdict.yes rfl (below_drewN (Below.refl _ _) _) ⟨H1.out, HH.out, HU.out⟩

end Go.Proofs.Qxb6619094aMods.Lease
