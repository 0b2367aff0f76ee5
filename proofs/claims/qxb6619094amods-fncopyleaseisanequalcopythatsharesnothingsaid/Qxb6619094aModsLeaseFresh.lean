/-
  Seat b6619094aM: the walk of zzB1FreshKey (function 14): some string of at most 1048577 bytes comes back; the world stands.
-/
import Derived.Test.Qxb6619094aModsLeaseBase
namespace Go.Proofs.Qxb6619094aMods.Lease
open Go.RowKit Go.Maps Go.WideMaps
set_option linter.unusedVariables false

set_option maxHeartbeats 1000000 in
theorem fresh_any (a : Option Addr) (len cap : Nat) (ks : List ByteArray) (w : World) (hk : IsKeys w a len ks) (hl : len ≤ 4096) (hz : ∀ i, i < len → (ks.getD i ByteArray.empty).size ≤ 1048576) :
    Calls Trym.prog 14 #[.slice a len cap] w fun e w' => ∃ s : ByteArray, e = .returned (.string s) ∧ s.size ≤ 1048577 ∧ w' = w := by
  go_enter Trym.func14, Trym.ntmps14
  go_wp2
  go_loop [3, 4] (fun l i => ∃ (k : Nat) (t : ByteArray), k ≤ len ∧ i = .int .i64 k ∧ l = .string t ∧ t.size ≤ 1048576) (fun _ i => len - (intOf i).toNat)
  case atStart => exact ⟨0, ⟨#[]⟩, Nat.zero_le _, rfl, rfl, Nat.zero_le _⟩
  case round =>
    obtain ⟨k, t, hkl, rfl, rfl, ht⟩ := hrel
    by_cases hlt : k < len
    · obtain ⟨b, off, rfl, hc⟩ := hk.cells k hlt
      have hks := hz k hlt
      generalize ks.getD k ByteArray.empty = s at *
      by_cases hb : t.size < s.size
      · go_wp2
        go_round
        case rel => exact ⟨k + 1, s, by omega, by go_num, rfl, hks⟩
        case measure => simp [intOf]; omega
      · have hb' : ¬ ((t.size : Int) < (s.size : Int)) := by omega
        go_wp2
        go_round
        case rel => exact ⟨k + 1, t, by omega, by go_num, rfl, ht⟩
        case measure => simp [intOf]; omega
    · go_wp2
      go_ret
      exact ⟨_, rfl, by rw [ByteArray.size_append]; show t.size + 1 ≤ _; omega, rfl⟩

end Go.Proofs.Qxb6619094aMods.Lease
