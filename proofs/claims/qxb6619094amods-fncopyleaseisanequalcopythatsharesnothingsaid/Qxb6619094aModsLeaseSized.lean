/-
  Seat b6619094aM: the walk of zzB1Sized (function 5).
-/
import Derived.Test.Qxb6619094aModsLeaseBase
namespace Go.Proofs.Qxb6619094aMods.Lease
open Go.RowKit Go.Maps Go.WideMaps
set_option linter.unusedVariables false

/-- What the size guard lets by. -/
structure Sized {H : Type} (id nonce pg heir : ByteArray) (len : Nat) (ks : List ByteArray) (D : DataW H) : Prop where
  hid : id.size ≤ 1048576
  hnonce : nonce.size ≤ 1048576
  hpg : pg.size ≤ 1048576
  hheir : heir.size ≤ 1048576
  hlen : len ≤ 4096
  hmap : Maps.size D ≤ 4096
  hkeys : ∀ i, i < len → (ks.getD i ByteArray.empty).size ≤ 1048576
  hvals : ∀ i, i < len → (val D (ks.getD i ByteArray.empty)).size ≤ 1048576

set_option maxHeartbeats 1000000 in
theorem sized_any {H : Type} (id nonce pg heir : ByteArray) (o : Option Nat) (n : Nat) (D : DataW H) (a : Option Addr) (len cap : Nat) (ks : List ByteArray) (w : World)
    (hi : id.size ≤ 140737488355328) (hn : nonce.size ≤ 140737488355328) (hp : pg.size ≤ 140737488355328) (hh : heir.size ≤ 140737488355328)
    (hm : mapIs w o n D) (hs : Maps.size D ≤ 140737488355328) (hv : ∀ i, i < len → (val D (ks.getD i ByteArray.empty)).size ≤ 140737488355328) (hk : IsKeys w a len ks) :
    Calls Trym.prog 5 #[.string id, .map o, .slice a len cap, .string nonce, .string pg, .string heir] w
      fun e w' => Verdict (Sized id nonce pg heir len ks D) e w w' := by
  have hl := fun ty => len_is hm ty
  have hlen := hk.short
  unfold maxLen at hlen
  by_cases h1 : 1048576 < id.size
  · go_enter Trym.func5, Trym.ntmps5
    go_wp2
    go_ret
    exact Verdict.no rfl (Below.refl _ _)
  by_cases h2 : 1048576 < nonce.size
  · go_enter Trym.func5, Trym.ntmps5
    go_wp2
    go_ret
    exact Verdict.no rfl (Below.refl _ _)
  by_cases h3 : 1048576 < pg.size
  · go_enter Trym.func5, Trym.ntmps5
    go_wp2
    go_ret
    exact Verdict.no rfl (Below.refl _ _)
  by_cases h4 : 1048576 < heir.size
  · go_enter Trym.func5, Trym.ntmps5
    go_wp2
    go_ret
    exact Verdict.no rfl (Below.refl _ _)
  have g1 : id.size ≤ 1048576 := by omega
  have g2 : nonce.size ≤ 1048576 := by omega
  have g3 : pg.size ≤ 1048576 := by omega
  have g4 : heir.size ≤ 1048576 := by omega
  clear h1 h2 h3 h4
  by_cases h5 : 4096 < len
  · go_enter Trym.func5, Trym.ntmps5
    go_wp2
    go_ret
    exact Verdict.no rfl (Below.refl _ _)
  have g5 : len ≤ 4096 := by omega
  clear h5
  by_cases h6 : 4096 < Maps.size D
  · go_enter Trym.func5, Trym.ntmps5
    go_wp2
    go_ret
    exact Verdict.no rfl (Below.refl _ _)
  have g6 : Maps.size D ≤ 4096 := by omega
  clear h6
  by_cases h7 : 1048576 < id.size + nonce.size + pg.size + heir.size
  · go_enter Trym.func5, Trym.ntmps5
    go_wp2
    go_ret
    exact Verdict.no rfl (Below.refl _ _)
  have g7 : id.size + nonce.size + pg.size + heir.size ≤ 1048576 := by omega
  clear h7
  by_cases h8 : 1048576 < id.size + nonce.size + pg.size + heir.size + 16 * len
  · go_enter Trym.func5, Trym.ntmps5
    go_wp2
    go_ret
    exact Verdict.no rfl (Below.refl _ _)
  have g8 : id.size + nonce.size + pg.size + heir.size + 16 * len ≤ 1048576 := by omega
  clear h8
  have d1 : decide (1048576 < (id.size : Int)) = false := decide_eq_false (by omega)
  have d2 : decide (1048576 < (nonce.size : Int)) = false := decide_eq_false (by omega)
  have d3 : decide (1048576 < (pg.size : Int)) = false := decide_eq_false (by omega)
  have d4 : decide (1048576 < (heir.size : Int)) = false := decide_eq_false (by omega)
  have d5 : decide (4096 < (len : Int)) = false := decide_eq_false (by omega)
  have d6 : decide (4096 < (Maps.size D : Int)) = false := decide_eq_false (by omega)
  have d7 : decide (1048576 < (id.size : Int) + nonce.size + pg.size + heir.size) = false := decide_eq_false (by omega)
  have d8 : decide (1048576 < (id.size : Int) + nonce.size + pg.size + heir.size + 16 * len) = false := decide_eq_false (by omega)
  go_enter Trym.func5, Trym.ntmps5
  go_wp2
  clear d1 d2 d3 d4 d5 d6 d7 d8
  go_loop [13, 14] (fun t i => ∃ k T : Nat, k ≤ len ∧ i = .int .i64 k ∧ t = .int .i64 T ∧ T ≤ 1048576 ∧ Hid (∀ j, j < k → (ks.getD j ByteArray.empty).size ≤ 1048576)) (fun _ i => len - (intOf i).toNat)
  case atStart => exact ⟨0, id.size + nonce.size + pg.size + heir.size + 16 * len, Nat.zero_le _, rfl, by go_num, g8, fun j hj => absurd hj (Nat.not_lt_zero _)⟩
  case round =>
    obtain ⟨k, T, hkl, rfl, rfl, hT, HK⟩ := hrel
    by_cases hlt : k < len
    · obtain ⟨b, off, rfl, hc⟩ := hk.cells k hlt
      have hks := hk.sized k hlt
      generalize hsk : ks.getD k ByteArray.empty = s at *
      have HS : Hid (ks.getD k ByteArray.empty = s) := hsk
      clear hsk
      by_cases hov : 1048576 < T + s.size
      · go_wp2
        go_ret
        exact Verdict.no rfl (Below.refl _ _)
      have hov' : T + s.size ≤ 1048576 := by omega
      clear hov
      go_wp2
      go_round
      case rel =>
        refine ⟨k + 1, T + s.size, by omega, by go_num, by go_num, hov', fun j hj => ?_⟩
        by_cases e : j = k
        · subst e; rw [HS.out]; omega
        · exact HK.out j (by omega)
      case measure => simp [intOf]; omega
    · have ek : k = len := by omega
      have HK2 : Hid (∀ j, j < len → (ks.getD j ByteArray.empty).size ≤ 1048576) := by rw [← ek]; exact HK
      clear HK ek
      go_wp2
      go_loop [13, 15] (fun t i => ∃ k T : Nat, k ≤ len ∧ i = .int .i64 k ∧ t = .int .i64 T ∧ T ≤ 1048576 ∧ Hid (∀ j, j < k → (val D (ks.getD j ByteArray.empty)).size ≤ 1048576)) (fun _ i => len - (intOf i).toNat)
      case atStart => exact ⟨0, T, Nat.zero_le _, rfl, rfl, hT, fun j hj => absurd hj (Nat.not_lt_zero _)⟩
      case round =>
        obtain ⟨k', T', hkl', rfl, rfl, hT', HV⟩ := hrel
        by_cases hlt' : k' < len
        · obtain ⟨b, off, rfl, hc⟩ := hk.cells k' hlt'
          have hks := hk.sized k' hlt'
          have hvs := hv k' hlt'
          generalize hsk : ks.getD k' ByteArray.empty = s at *
          have HS : Hid (ks.getD k' ByteArray.empty = s) := hsk
          clear hsk
          have hlk := look hm (le_maxLen hks)
          generalize hsv : val D s = v at *
          have HV2 : Hid (val D s = v) := hsv
          clear hsv
          by_cases hov : 1048576 < T' + v.size
          · go_wp2
            go_ret
            exact Verdict.no rfl (Below.refl _ _)
          have hov' : T' + v.size ≤ 1048576 := by omega
          clear hov
          go_wp2
          go_round
          case rel =>
            refine ⟨k' + 1, T' + v.size, by omega, by go_num, by go_num, hov', fun j hj => ?_⟩
            by_cases e : j = k'
            · subst e; rw [HS.out, HV2.out]; omega
            · exact HV.out j (by omega)
          case measure => simp [intOf]; omega
        · go_wp2
          go_ret
          have ek : k' = len := by omega
          exact Verdict.yes rfl (Below.refl _ _) ⟨g1, g2, g3, g4, g5, g6, HK2.out, fun j hj => HV.out j (by omega)⟩

end Go.Proofs.Qxb6619094aMods.Lease
