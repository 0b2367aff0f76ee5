/-
  Seat b6619094aM: the walk of zzB1MetaIs (function 10).
-/
import Derived.Test.Qxb6619094aModsLeaseBase
namespace Go.Proofs.Qxb6619094aMods.Lease
open Go.RowKit Go.Maps Go.WideMaps
set_option linter.unusedVariables false

/-- The map that reads as G holds just the listed keys, each with D's string. -/
structure Filled {H : Type} (G D : DataW H) (len : Nat) (ks : List ByteArray) : Prop where
  hsize : Maps.size G = len
  hhas : ∀ i, i < len → Maps.has G (keyL (ks.getD i ByteArray.empty)) = true
  hval : ∀ i, i < len → val G (ks.getD i ByteArray.empty) = val D (ks.getD i ByteArray.empty)

set_option maxHeartbeats 1000000 in
theorem meta_any {H : Type} (g o : Option Nat) (ng n : Nat) (G D : DataW H) (a : Option Addr) (len cap : Nat) (ks : List ByteArray) (w : World)
    (hg : mapIs w g ng G) (hm : mapIs w o n D) (hk : IsKeys w a len ks) (hf : Filled G D len ks) (hn : g.isNone = o.isNone) :
    Calls Trym.prog 10 #[.map g, .map o, .slice a len cap] w fun e w' => e = .returned (.bool true) ∧ w' = w := by
  have q1 : ∀ (w : World), (binOp .eql 23 (.map g) (.map none)).run Trym.prog w = .ok (.bool o.isNone) w := fun w => by rw [← hn]; exact run_eql_map_nil w _ _ _ g Trym.underlying23
  have q2 : ∀ (w : World), (binOp .eql 23 (.map o) (.map none)).run Trym.prog w = .ok (.bool o.isNone) w := fun w => run_eql_map_nil w _ _ _ o Trym.underlying23
  generalize o.isNone = bn at *
  have hl : ∀ ty, (Builtin.len_ #[23] ty #[.map g]).run Trym.prog w = .ok (.int .i64 len) w := fun ty => by rw [← hf.hsize]; exact len_is hg ty
  have hlen := hk.short
  unfold maxLen at hlen
  have hnn : (bn == bn) = true := by simp
  have hll : ((len : Int) != (len : Int)) = false := by simp
  clear hn
  go_enter Trym.func10, Trym.ntmps10
  go_wp2
  clear hnn q1 q2 hll
  go_loop [7] (fun i => ∃ k : Nat, k ≤ len ∧ i = .int .i64 k) (fun i => len - (intOf i).toNat)
  case atStart => exact ⟨0, Nat.zero_le _, rfl⟩
  case round =>
    obtain ⟨k, hkl, rfl⟩ := hrel
    by_cases hlt : k < len
    · obtain ⟨b, off, rfl, hc⟩ := hk.cells k hlt
      have hks := hk.sized k hlt
      have l1 := (look_ok hg (le_maxLen hks)).1
      have l2 := look hm (le_maxLen hks)
      have f1 := hf.hhas k hlt
      have f2 := hf.hval k hlt
      rw [f1, f2] at l1
      clear f1 f2
      generalize ks.getD k ByteArray.empty = s at *
      generalize val D s = v at *
      have hvv : (v.toList == v.toList) = true := by simp
      go_wp2
      go_round
      case rel => exact ⟨k + 1, by omega, by go_num⟩
      case measure => simp [intOf]; omega
    · go_wp2
      go_ret
      exact ⟨rfl, rfl⟩

end Go.Proofs.Qxb6619094aMods.Lease
