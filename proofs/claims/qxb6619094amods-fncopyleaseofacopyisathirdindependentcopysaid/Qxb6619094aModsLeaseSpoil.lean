/-
  Seat b6619094aM: the walk of zzB1Spoil (function 11): it turns the lease's block and its map's block, and no other.
-/
import Derived.Test.Qxb6619094aModsLeaseBuild
import Derived.Test.Qxb6619094aModsLeaseFresh
import Derived.Deep.RegionWith
namespace Go.Proofs.Qxb6619094aMods.Lease
open Go.RowKit Go.Maps Go.WideMaps
set_option linter.unusedVariables false

/-- w' is w but for block c, for the block that m names, and for new blocks. -/
structure Turned (w w' : World) (c : Nat) (m : Option Nat) : Prop where
  os : w'.os = w.os
  tape : w'.tape = w.tape
  output : w'.output = w.output
  size : w.heap.size ≤ w'.heap.size
  block : ∀ i, i < w.heap.size → i ≠ c → some i ≠ m → w'.heap[i]? = w.heap[i]?

theorem Turned.refl (w : World) (c : Nat) (m : Option Nat) : Turned w w c m := ⟨rfl, rfl, rfl, Nat.le_refl _, fun _ _ _ _ => rfl⟩

theorem Turned.trans {a b d : World} {c : Nat} {m : Option Nat} (h : Turned a b c m) (k : Turned b d c m) : Turned a d c m :=
  ⟨k.os.trans h.os, k.tape.trans h.tape, k.output.trans h.output, Nat.le_trans h.size k.size, fun i hi h1 h2 => (k.block i (Nat.lt_of_lt_of_le hi h.size) h1 h2).trans (h.block i hi h1 h2)⟩

theorem Turned.setCell {a w : World} {c : Nat} {m : Option Nat} (h : Turned a w c m) (o : Nat) (v : Value) : Turned a (w.setCell ⟨c, o, none⟩ v) c m :=
  h.trans ⟨rfl, rfl, rfl, by simp [World.setCell], fun i hi h1 _ => Below.heap_setCell _ _ _ _ h1⟩

theorem Turned.drew {a w : World} {c : Nat} {m : Option Nat} (h : Turned a w c m) : Turned a w.drew c m := h.trans ⟨rfl, rfl, rfl, Nat.le_refl _, fun _ _ _ _ => rfl⟩

theorem Turned.grown {a w w' : World} {c b : Nat} (h : Turned a w c (some b)) (hg : w.grownBy w' (some b)) : Turned a w' c (some b) :=
  h.trans ⟨hg.os, hg.tape, hg.output, hg.size, fun i hi _ h2 => hg.block i hi h2⟩

/-- W is w but for cells of block c other than the fourth. -/
structure Only (w W : World) (c : Nat) : Prop where
  os : W.os = w.os
  tape : W.tape = w.tape
  output : W.output = w.output
  size : W.heap.size = w.heap.size
  block : ∀ i, i ≠ c → W.heap[i]? = w.heap[i]?
  field : W.cell? ⟨c, 3, none⟩ = w.cell? ⟨c, 3, none⟩

theorem Only.refl (w : World) (c : Nat) : Only w w c := ⟨rfl, rfl, rfl, rfl, fun _ _ => rfl, rfl⟩

theorem Only.setCell {w W : World} {c : Nat} (h : Only w W c) (o : Nat) (ho : o ≠ 3) (v : Value) : Only w (W.setCell ⟨c, o, none⟩ v) c :=
  ⟨h.os, h.tape, h.output, by rw [← h.size]; simp [World.setCell], fun i hi => (Below.heap_setCell _ _ _ _ hi).trans (h.block i hi),
    by rw [← h.field]; exact World.cell?_setCell_other _ _ _ _ (fun e => ho (congrArg Addr.off e))⟩

theorem only9 (w : World) (c : Nat) (v0 v1 v2 v4 v5 v6 v7 v8 v9 : Value) :
    Only w (((((((((w.setCell ⟨c, 0, none⟩ v0).setCell ⟨c, 1, none⟩ v1).setCell ⟨c, 2, none⟩ v2).setCell ⟨c, 4, none⟩ v4).setCell ⟨c, 5, none⟩ v5).setCell ⟨c, 6, none⟩ v6).setCell ⟨c, 7, none⟩ v7).setCell ⟨c, 8, none⟩ v8).setCell ⟨c, 9, none⟩ v9) c :=
  (((((((((Only.refl w c).setCell 0 (by decide) v0).setCell 1 (by decide) v1).setCell 2 (by decide) v2).setCell 4 (by decide) v4).setCell 5 (by decide) v5).setCell 6 (by decide) v6).setCell 7 (by decide) v7).setCell 8 (by decide) v8).setCell 9 (by decide) v9

theorem Only.turned {w W : World} {c : Nat} (h : Only w W c) (m : Option Nat) : Turned w W c m := ⟨h.os, h.tape, h.output, Nat.le_of_eq h.size.symm, fun i _ hi _ => h.block i hi⟩

/-- The spoiling under way: what is known of the world. -/
structure SR {H : Type} (w0 w wr : World) (c b N : Nat) (G : DataW H) : Prop where
  turned : Turned w wr c (some b)
  field : wr.cell? ⟨c, 3, none⟩ = some (.map (some b))
  own : wr.ownsMap Trym.prog 9 (plainElem Trym.prog 9) b N G
  below : Below w0.heap.size w0 wr

theorem SR.start {H : Type} {w0 w W : World} {c b n : Nat} {G : DataW H} (h : Only w W c) (hbel : Below w0.heap.size w0 w) (hcn : w0.heap.size ≤ c) (hbc : b ≠ c)
    (c3 : w.cell? ⟨c, 3, none⟩ = some (.map (some b))) (hm : mapIs w (some b) n G) : SR w0 w W c b n G :=
  ⟨h.turned _, h.field.trans c3, mapIs_block hm (fun b' e => by cases e; exact h.block b hbc),
    hbel.trans ⟨h.os, h.tape, h.output, Nat.le_of_eq h.size.symm, fun k hk => h.block k (by omega)⟩⟩

theorem SR.step {H : Type} {w0 w wr w1 : World} {c b N : Nat} {G G' : DataW H} (h : SR w0 w wr c b N G) (hown : w1.ownsMap Trym.prog 9 (plainElem Trym.prog 9) b (N + 1) G') (hg : wr.drew.grownBy w1 (some b))
    (hcn : w0.heap.size ≤ c) (hbn : w0.heap.size ≤ b) (hbc : b ≠ c) : SR w0 w w1 c b (N + 1) G' := by
  have hlt : c < wr.heap.size := World.block_lt_of_cell? _ ⟨c, 3, none⟩ h.field
  refine ⟨h.turned.drew.grown hg, ?_, hown, h.below.drew.grown hg h.below.size (fun j hj => by cases hj; exact hbn)⟩
  rw [← h.field]
  exact World.cell?_of_block (w := wr) (hg.block c hlt (fun e => hbc (Option.some.inj e).symm))

/-- The lease's strings are short. -/
structure Short (f : Fields) : Prop where
  hid : f.fid.size ≤ 1048576
  hnonce : f.nonce.size ≤ 1048576
  hgroup : f.group.size ≤ 1048576
  hheir : f.heir.size ≤ 1048576

set_option maxHeartbeats 1000000 in
theorem spoil_nil (c : Nat) (f : Fields) (a : Option Addr) (len cap : Nat) (w : World) (h : IsLease w c f none) (hs : Short f) :
    Calls Trym.prog 11 #[.pointer (some ⟨c, 0, none⟩), .slice a len cap] w fun e w' => e = .returned (.tuple #[]) ∧ Turned w w' c none := by
  have c0 : w.cell? ⟨c, 0, none⟩ = some (.string f.fid) := h.cell 0
  have c1 : w.cell? ⟨c, 1, none⟩ = some (.int .u64 f.token) := h.cell 1
  have c2 : w.cell? ⟨c, 2, none⟩ = some (.int .i64 f.ttl) := h.cell 2
  have c3 : w.cell? ⟨c, 3, none⟩ = some (.map none) := h.cell 3
  have c4 : w.cell? ⟨c, 4, none⟩ = some (.string f.nonce) := h.cell 4
  have c5 : w.cell? ⟨c, 5, none⟩ = some (.string f.group) := h.cell 5
  have c6 : w.cell? ⟨c, 6, none⟩ = some (.int .u64 f.ptoken) := h.cell 6
  have c7 : w.cell? ⟨c, 7, none⟩ = some (.string f.heir) := h.cell 7
  have c8 : w.cell? ⟨c, 8, none⟩ = some (.int .u64 f.prior) := h.cell 8
  have c9 : w.cell? ⟨c, 9, none⟩ = some (.int .u64 f.serial) := h.cell 9
  have f0 : ∀ i, w.frozen? ⟨c, i, none⟩ = false := h.frozen
  have q1 : ∀ (w : World), (binOp .neq 23 (.map none) (.map none)).run Trym.prog w = .ok (.bool false) w := fun w => run_neq_map_nil w _ _ _ none Trym.underlying23
  obtain ⟨s1, s2, s3, s4⟩ := hs
  clear h
  go_enter Trym.func11, Trym.ntmps11
  go_wp2
  go_end0
  exact ⟨rfl, (only9 w c _ _ _ _ _ _ _ _ _).turned none⟩

set_option maxHeartbeats 1000000 in
theorem spoil_some {H : Type} (w0 : World) (c b n : Nat) (G : DataW H) (f : Fields) (a : Option Addr) (len cap : Nat) (ks : List ByteArray) (w : World) (hbel : Below w0.heap.size w0 w) (hk : IsKeys w0 a len ks)
    (hcn : w0.heap.size ≤ c) (hbn : w0.heap.size ≤ b) (h : IsLease w c f (some b)) (hm : mapIs w (some b) n G) (hs : Short f) (hn : n ≤ 4096) (hl4 : len ≤ 4096)
    (hz : ∀ i, i < len → (ks.getD i ByteArray.empty).size ≤ 1048576) (hv : ∀ i, i < len → (val G (ks.getD i ByteArray.empty)).size ≤ 1048576) :
    Calls Trym.prog 11 #[.pointer (some ⟨c, 0, none⟩), .slice a len cap] w fun e w' => e = .returned (.tuple #[]) ∧ Turned w w' c (some b) := by
  have c0 : w.cell? ⟨c, 0, none⟩ = some (.string f.fid) := h.cell 0
  have c1 : w.cell? ⟨c, 1, none⟩ = some (.int .u64 f.token) := h.cell 1
  have c2 : w.cell? ⟨c, 2, none⟩ = some (.int .i64 f.ttl) := h.cell 2
  have c3 : w.cell? ⟨c, 3, none⟩ = some (.map (some b)) := h.cell 3
  have c4 : w.cell? ⟨c, 4, none⟩ = some (.string f.nonce) := h.cell 4
  have c5 : w.cell? ⟨c, 5, none⟩ = some (.string f.group) := h.cell 5
  have c6 : w.cell? ⟨c, 6, none⟩ = some (.int .u64 f.ptoken) := h.cell 6
  have c7 : w.cell? ⟨c, 7, none⟩ = some (.string f.heir) := h.cell 7
  have c8 : w.cell? ⟨c, 8, none⟩ = some (.int .u64 f.prior) := h.cell 8
  have c9 : w.cell? ⟨c, 9, none⟩ = some (.int .u64 f.serial) := h.cell 9
  have f0 : ∀ i, w.frozen? ⟨c, i, none⟩ = false := h.frozen
  have hbc : b ≠ c := fun e => by
    obtain ⟨es, clock, hb, _⟩ := hm
    have h' := h
    unfold IsLease at h'
    rw [← e, hb] at h'
    cases h'
  have q1 : ∀ (w : World), (binOp .neq 23 (.map (some b)) (.map none)).run Trym.prog w = .ok (.bool true) w := fun w => run_neq_map_nil w _ _ _ (some b) Trym.underlying23
  obtain ⟨s1, s2, s3, s4⟩ := hs
  clear h
  go_enter Trym.func11, Trym.ntmps11
  go_wp2_with fail
  go_loopw [4] (fun i wr => ∃ (k : Nat) (G' : DataW H), k ≤ len ∧ i = .int .i64 k ∧ SR w0 w wr c b (n + k) G' ∧ Hid (∀ j, j < len → (val G' (ks.getD j ByteArray.empty)).size ≤ 1048576 + k)) (fun i _ => len - (intOf i).toNat)
  case atStart => exact ⟨0, G, Nat.zero_le _, rfl, SR.start (only9 w c _ _ _ _ _ _ _ _ _) hbel hcn hbc c3 hm, hv⟩
  case round =>
    obtain ⟨k, G', hkl, rfl, hsr, HV⟩ := hrel
    clear c0 c1 c2 c3 c4 c5 c6 c7 c8 c9 f0 q1 hm hv
    have hfield := hsr.field
    by_cases hlt : k < len
    · obtain ⟨b', off, rfl, hc⟩ := (hk.below hsr.below (Nat.le_refl _)).cells k hlt
      have hks := hk.sized k hlt
      have hvs := HV.out k hlt
      generalize hsk : ks.getD k ByteArray.empty = s at *
      have HS : Hid (ks.getD k ByteArray.empty = s) := hsk
      clear hsk
      have hkm := le_maxLen hks
      have hlk : (Instr.lookup 23 (.map (some b)) (.string s) false).run Trym.prog wr.drew = .ok (.string (val G' s)) wr.drew := look (o := some b) (n := n + k) (World.ownsMap.drew hsr.own) hkm
      generalize hsv : val G' s = v at *
      have HV2 : Hid (val G' s = v) := hsv
      clear hsv
      have hvm : (v ++ ByteArray.mk #[33]).size ≤ maxLen := by rw [ByteArray.size_append]; show v.size + 1 ≤ _; unfold maxLen; omega
      obtain ⟨w1, hrun, hown1, hg1⟩ := World.ownsMap.update (w := wr.drew) (World.ownsMap.drew hsr.own) law Trym.underlying23 (by unfold maxLen; omega) (hkey hkm) (plainElem_string Trym.underlying9 hvm)
      go_wp2_with fail
      go_region
      go_wp2
      go_roundw
      case rel =>
        refine ⟨k + 1, _, by omega, by go_num, hsr.step hown1 hg1 hcn hbn hbc, fun j hj => ?_⟩
        by_cases e : keyL (ks.getD j ByteArray.empty) = keyL s
        · rw [keyL_inj e, val_of (atKey_put_same (World.ownsMap.isMap hsr.own) (keyL_is s) _ _), ByteArray.size_append]
          show v.size + 1 ≤ _
          omega
        · have h1 := HV.out j hj
          unfold val at h1 ⊢
          rw [atKey_put_other e]
          omega
      case measure => simp [intOf]; omega
    · have hkd : IsKeys wr.drew a len ks := hk.below (hsr.below.drew) (Nat.le_refl _)
      have hup2 : ∀ s : ByteArray, s.size ≤ 1048577 → ∃ w1, (Instr.mapUpdate 23 (.map (some b)) (.string s) (.string (ByteArray.mk #[33]))).run Trym.prog wr.drew = .ok () w1 ∧ Turned w w1 c (some b) := fun s hs => by
        obtain ⟨w1, hrun, hown1, hg1⟩ := World.ownsMap.update (w := wr.drew) (World.ownsMap.drew hsr.own) law Trym.underlying23 (by unfold maxLen; omega) (hkey (s := s) (by unfold maxLen; omega)) (plainElem_string Trym.underlying9 (s := ByteArray.mk #[33]) (by unfold maxLen; decide))
        exact ⟨w1, hrun, hsr.turned.drew.grown hg1⟩
      have HU : Hid (∀ s : ByteArray, s.size ≤ 1048577 → ∃ w1, (Instr.mapUpdate 23 (.map (some b)) (.string s) (.string (ByteArray.mk #[33]))).run Trym.prog wr.drew = .ok () w1 ∧ Turned w w1 c (some b)) := hup2
      clear hup2 HV hkl
      go_wp2_with fail
      go_region_with (go_at_call 14; refine (fresh_any _ _ _ ks _ hkd hl4 hz).mono ?_; rintro e w' ⟨s, rfl, hs, rfl⟩; obtain ⟨w1, hrun, ht1⟩ := HU.out s hs)
      all_goals
        go_wp2
        go_end0
        exact ⟨rfl, ht1⟩

end Go.Proofs.Qxb6619094aMods.Lease
