/-
  Seat b6619094aM: the walk of zzB1CopyMeta (function 13), and the plain facts on the order of keys that it leans on.
-/
import Derived.Test.Qxb6619094aModsLeaseKeys
import Derived.Test.Qxb6619094aModsLeaseMeta
namespace Go.Proofs.Qxb6619094aMods.Lease
open Go.RowKit Go.Maps Go.WideMaps
set_option linter.unusedVariables false

theorem less_irrefl : ∀ l : List UInt8, Op.bytesLess l l = false
  | [] => rfl
  | x :: r => by simp [Op.bytesLess, less_irrefl r]

theorem less_trans : ∀ {x y z : List UInt8}, Op.bytesLess x y = true → Op.bytesLess y z = true → Op.bytesLess x z = true
  | x, y, [], _, h2 => by cases y <;> simp [Op.bytesLess] at h2
  | x, [], c :: z, h1, _ => by cases x <;> simp [Op.bytesLess] at h1
  | [], b :: y, c :: z, _, _ => rfl
  | a :: x, b :: y, c :: z, h1, h2 => by
    simp only [Op.bytesLess, Bool.or_eq_true, Bool.and_eq_true, decide_eq_true_eq, beq_iff_eq, UInt8.lt_iff_toNat_lt] at h1 h2 ⊢
    rcases h1 with h1 | ⟨rfl, h1⟩
    · rcases h2 with h2 | ⟨rfl, h2⟩
      · exact Or.inl (by omega)
      · exact Or.inl h1
    · rcases h2 with h2 | ⟨rfl, h2⟩
      · exact Or.inl h2
      · exact Or.inr ⟨rfl, less_trans h1 h2⟩

theorem less_far {len : Nat} {ks : List ByteArray} (h : ∀ i, i + 1 < len → Op.bytesLess (ks.getD i ByteArray.empty).toList (ks.getD (i + 1) ByteArray.empty).toList = true) :
    ∀ (d i : Nat), i + d + 1 < len → Op.bytesLess (ks.getD i ByteArray.empty).toList (ks.getD (i + d + 1) ByteArray.empty).toList = true
  | 0, i, hi => h i hi
  | d + 1, i, hi => less_trans (less_far h d i (by omega)) (h (i + d + 1) hi)

/-- No key stands twice. -/
theorem apart {len : Nat} {ks : List ByteArray} (h : ∀ i, i + 1 < len → Op.bytesLess (ks.getD i ByteArray.empty).toList (ks.getD (i + 1) ByteArray.empty).toList = true)
    {i j : Nat} (hij : i < j) (hj : j < len) : ks.getD j ByteArray.empty ≠ ks.getD i ByteArray.empty := by
  intro e
  have := less_far h (j - i - 1) i (by omega)
  rw [show i + (j - i - 1) + 1 = j by omega, e, less_irrefl] at this
  cases this

/-- What the copy holds behind k rounds. -/
structure FilledTo {H : Type} (G D : DataW H) (k : Nat) (ks : List ByteArray) : Prop where
  hsize : Maps.size G = k
  hhas : ∀ i, i < k → Maps.has G (keyL (ks.getD i ByteArray.empty)) = true
  hval : ∀ i, i < k → val G (ks.getD i ByteArray.empty) = val D (ks.getD i ByteArray.empty)
  honly : ∀ kl, Maps.has G kl = true → ∃ i, i < k ∧ kl = keyL (ks.getD i ByteArray.empty)

theorem FilledTo.start {H : Type} (D : DataW H) (ks : List ByteArray) : FilledTo (.map []) D 0 ks :=
  ⟨rfl, fun i hi => absurd hi (Nat.not_lt_zero _), fun i hi => absurd hi (Nat.not_lt_zero _), fun kl h => by cases h⟩

theorem FilledTo.step {H : Type} {G D : DataW H} {k len : Nat} {ks : List ByteArray} (h : FilledTo G D k ks) (hk : k < len) (ht : Tidy G)
    (hup : ∀ i, i + 1 < len → Op.bytesLess (ks.getD i ByteArray.empty).toList (ks.getD (i + 1) ByteArray.empty).toList = true)
    {s v : ByteArray} (hs : ks.getD k ByteArray.empty = s) (hv : val D s = v) : FilledTo (G.put (keyL s) (.lit (.string v.data.toList))) D (k + 1) ks := by
  have hnew : Maps.has G (keyL s) = false := by
    cases hh : Maps.has G (keyL s)
    · rfl
    · obtain ⟨i, hi, e⟩ := h.honly _ hh
      exact absurd (hs.trans (keyL_inj e)) (apart hup hi hk)
  have hne : ∀ i, i < k → keyL (ks.getD i ByteArray.empty) ≠ keyL s := fun i hi e => apart hup hi hk (hs.trans (keyL_inj e).symm)
  refine ⟨by rw [size_put ht, hnew]; simp [h.hsize], fun i hi => ?_, fun i hi => ?_, fun kl hkl => ?_⟩
  · by_cases e : i = k
    · subst e; rw [hs]; exact has_put_same ht.isMap (keyL_is s) _
    · rw [has_put_other (hne i (by omega))]; exact h.hhas i (by omega)
  · by_cases e : i = k
    · subst e; rw [hs, hv]; exact val_of (atKey_put_same ht.isMap (keyL_is s) _ _)
    · rw [← h.hval i (by omega)]; unfold val; rw [atKey_put_other (hne i (by omega))]
  · by_cases e : kl = keyL s
    · exact ⟨k, Nat.lt_succ_self _, by rw [hs]; exact e⟩
    · rw [has_put_other e] at hkl
      obtain ⟨i, hi, ei⟩ := h.honly kl hkl
      exact ⟨i, by omega, ei⟩

theorem makeMap_hint (w : World) (v : Int) : (Instr.makeMap 23 (some (.int .i64 v))).run Trym.prog w = .ok (.map (some w.heap.size)) (w.alloc (.map #[] 0)) := by
  simp [Instr.makeMap, run_underlying Trym.underlying23, asInt, Sem.run_bind, Result.andThen, newObj]
  rfl

theorem copyMeta_nil (a : Option Addr) (len cap : Nat) (w : World) :
    Calls Trym.prog 13 #[.map none, .slice a len cap] w fun e w' => e = .returned (.map none) ∧ w' = w := by
  have q1 : ∀ (w : World), (binOp .eql 23 (.map none) (.map none)).run Trym.prog w = .ok (.bool true) w := fun w => run_eql_map_nil w _ _ _ none Trym.underlying23
  go_enter Trym.func13, Trym.ntmps13
  go_wp2
  go_ret
  exact ⟨rfl, rfl⟩

set_option maxHeartbeats 1000000 in
theorem copyMeta_any {H : Type} (b n : Nat) (D : DataW H) (a : Option Addr) (len cap : Nat) (ks : List ByteArray) (w : World)
    (hm : mapIs w (some b) n D) (hk : IsKeys w a len ks) (hl4 : len ≤ 4096) (hv : ∀ i, i < len → (val D (ks.getD i ByteArray.empty)).size ≤ 1048576)
    (hup : ∀ i, i + 1 < len → Op.bytesLess (ks.getD i ByteArray.empty).toList (ks.getD (i + 1) ByteArray.empty).toList = true) :
    Calls Trym.prog 13 #[.map (some b), .slice a len cap] w fun e w' => e = .returned (.map (some w.heap.size)) ∧ Below w.heap.size w w' ∧
      ∃ G : DataW H, mapIs w' (some w.heap.size) len G ∧ FilledTo G D len ks := by
  have q1 : ∀ (w : World), (binOp .eql 23 (.map (some b)) (.map none)).run Trym.prog w = .ok (.bool false) w := fun w => run_eql_map_nil w _ _ _ (some b) Trym.underlying23
  have hmm := makeMap_hint
  have hbl := mapIs_lt hm
  have HUP : Hid (∀ i, i + 1 < len → Op.bytesLess (ks.getD i ByteArray.empty).toList (ks.getD (i + 1) ByteArray.empty).toList = true) := hup
  clear hup
  go_enter Trym.func13, Trym.ntmps13
  go_wp2
  clear q1 hmm
  go_loopw [6] (fun i wr => ∃ (k : Nat) (G : DataW H), k ≤ len ∧ i = .int .i64 k ∧ wr.ownsMap Trym.prog 9 (plainElem Trym.prog 9) w.heap.size k G ∧ FilledTo G D k ks ∧ Below w.heap.size w wr) (fun i _ => len - (intOf i).toNat)
  case atStart => exact ⟨0, .map [], Nat.zero_le _, rfl, World.ownsMap_made _ _ _ _, FilledTo.start D ks, (Below.refl _ _).alloc (Nat.le_refl _) _⟩
  case round =>
    obtain ⟨k, G, hkl, rfl, hown, hfill, hbel⟩ := hrel
    by_cases hlt : k < len
    · have hkw := hk.below hbel (Nat.le_refl _)
      obtain ⟨b', off, rfl, hc⟩ := hkw.cells k hlt
      have hks := hk.sized k hlt
      have hvs := hv k hlt
      generalize hsk : ks.getD k ByteArray.empty = s at *
      have HS : Hid (ks.getD k ByteArray.empty = s) := hsk
      clear hsk
      have hlk := look (mapIs_below hm hbel (fun b' e => by cases e; exact hbl)) (le_maxLen hks)
      generalize hsv : val D s = v at *
      have HV : Hid (val D s = v) := hsv
      clear hsv
      have hvm : v.size ≤ maxLen := by unfold maxLen; omega
      have hkm := le_maxLen hks
      clear hkw
      go_wp2_with (first
        | (at_mapUpdate; refine wpList_mapUpdate_own _ rfl _ _ _ 23 rfl 9 9 law Trym.underlying23 _ w.heap.size k G rfl hown (by unfold maxLen; omega) _ _ _ rfl rfl (hkey hkm) _ [] (plainElem_string Trym.underlying9 hvm) ?_; intro w1 hown1 hg1)
        | go_in)
      go_roundw
      case rel => exact ⟨k + 1, _, by omega, by go_num, hown1, hfill.step hlt (hown.tidy law) HUP.out HS.out HV.out, hbel.grown hg1 hbel.size (fun j hj => by cases hj; exact Nat.le_refl _)⟩
      case measure => simp [intOf]; omega
    · go_wp2
      go_ret
      have ek : k = len := by omega
      subst ek
      exact ⟨rfl, hbel, G, hown, hfill⟩

end Go.Proofs.Qxb6619094aMods.Lease
