/-
  Seat b6619094aM: the walks of copyLease (function 12) and ZZCopyLease (function 7).
-/
import Derived.Test.Qxb6619094aModsLeaseBuild
namespace Go.Proofs.Qxb6619094aMods.Lease
open Go.RowKit Go.Maps Go.WideMaps
set_option linter.unusedVariables false

/-- The range's step, string keys, string elements. -/
theorem next_ss {H : Type} (w : World) {ops : Array Oper} {rest : List Oper} {o : Oper} {a : Act} {Q : Exit → Act → World → Prop}
    (hg : o.guard = none) (it : Operand) (hop : o.op = Op.next it false)
    (b r n : Nat) (D : DataW H) (left : Lit → Bool) (cnt : Nat) (hit : a.eval it = .pointer (some ⟨r, 0, none⟩)) (h : w.ranges Trym.prog 9 (plainElem Trym.prog 9) b r n D left cnt)
    (hDone : cnt = 0 → (∀ kl, left kl = false) → wpList Trym.prog ops Q rest (a.put o.dst (.tuple #[.bool false])) w)
    (hMore : ∀ (x c : ByteArray) (w' : World) (cnt' : Nat), x.size ≤ maxLen → c.size ≤ maxLen → left (keyL x) = true → (∀ zd, D.atKey (keyL x) zd = .lit (.string c.data.toList)) → w'.ranges Trym.prog 9 (plainElem Trym.prog 9) b r n D (fun z => left z && !z.sameKey (keyL x)) cnt' → cnt' < cnt →
      w.grownBy w' (some r) → w'.heap.size = w.heap.size → (Instr.entry (.pointer (some ⟨r, 0, none⟩))).run Trym.prog w' = .ok (.tuple #[.string x, .string c]) w' → wpList Trym.prog ops Q rest (a.put o.dst (.tuple #[.bool true, .string x, .string c])) w') :
    wpList Trym.prog ops Q (o :: rest) a w :=
  wpList_next_ranges w hg it hop 9 law (plainElem Trym.prog 9) Value.string Value.string (fun key kl hkey => by obtain ⟨x, rfl, _⟩ := string_of_keyOf Trym.underlying9 hkey; exact ⟨x, rfl⟩)
    (fun v y hv => by obtain ⟨c, rfl, _⟩ := plainElem_string_inv Trym.underlying9 hv; exact ⟨c, rfl⟩)
    b r n D left cnt hit h hDone (fun x c kl y w' cnt' hkey hlk hv hat hrg hlt hgr hsz hen => by
      obtain ⟨x', ex, rfl, hwx⟩ := string_of_keyOf Trym.underlying9 hkey
      cases ex
      obtain ⟨c', ec, rfl, hwc⟩ := plainElem_string_inv Trym.underlying9 hv
      cases ec
      exact hMore x c w' cnt' hwx hwc hlk hat hrg hlt hgr hsz hen)

theorem IsLease.grown {w w' : World} {p : Nat} {f : Fields} {m : Option Nat} {row : Option Nat} (h : IsLease w p f m) (hg : w.grownBy w' row) (hne : some p ≠ row) : IsLease w' p f m :=
  (hg.block p h.lt hne).trans h

theorem IsLease.block {w w' : World} {p : Nat} {f : Fields} {m : Option Nat} (h : IsLease w p f m) (hb : w'.heap[p]? = w.heap[p]?) : IsLease w' p f m := hb.trans h

theorem copy_null (w : World) : Calls Trym.prog 12 #[.pointer none] w fun e w' => e = .returned (.pointer none) ∧ w' = w := by
  go_enter Trym.func12, Trym.ntmps12
  go_wp2
  go_ret
  exact ⟨rfl, rfl⟩

set_option maxHeartbeats 1000000 in
theorem copy_nil {H : Type} (p : Nat) (f : Fields) (w : World) (h : IsLease w p f none) :
    Calls Trym.prog 12 #[.pointer (some ⟨p, 0, none⟩)] w fun e w' => Made w w' e f true (fun G : DataW H => G = .nil) := by
  have c0 : w.cell? ⟨p, 0, none⟩ = some (.string f.fid) := h.cell 0
  have c1 : w.cell? ⟨p, 1, none⟩ = some (.int .u64 f.token) := h.cell 1
  have c2 : w.cell? ⟨p, 2, none⟩ = some (.int .i64 f.ttl) := h.cell 2
  have c3 : w.cell? ⟨p, 3, none⟩ = some (.map none) := h.cell 3
  have c4 : w.cell? ⟨p, 4, none⟩ = some (.string f.nonce) := h.cell 4
  have c5 : w.cell? ⟨p, 5, none⟩ = some (.string f.group) := h.cell 5
  have c6 : w.cell? ⟨p, 6, none⟩ = some (.int .u64 f.ptoken) := h.cell 6
  have c7 : w.cell? ⟨p, 7, none⟩ = some (.string f.heir) := h.cell 7
  have c8 : w.cell? ⟨p, 8, none⟩ = some (.int .u64 f.prior) := h.cell 8
  have c9 : w.cell? ⟨p, 9, none⟩ = some (.int .u64 f.serial) := h.cell 9
  have hp := h.lt
  have q1 : ∀ (w : World), (binOp .neq 23 (.map none) (.map none)).run Trym.prog w = .ok (.bool false) w := fun w => run_neq_map_nil w _ _ _ none Trym.underlying23
  clear h
  go_enter Trym.func12, Trym.ntmps12
  go_wp2
  go_ret
  exact ⟨_, none, 0, .nil, rfl, Nat.le_refl _, lease_alloc _ f none, rfl, (fun b e => by cases e), by omega, rfl, rfl, (Below.refl _ _).alloc (Nat.le_refl _) _⟩

set_option maxHeartbeats 1000000 in
theorem copy_some {H : Type} (p b n : Nat) (G : DataW H) (f : Fields) (w : World) (h : IsLease w p f (some b)) (hm : mapIs w (some b) n G) (hn : n ≤ 4096) :
    Calls Trym.prog 12 #[.pointer (some ⟨p, 0, none⟩)] w fun e w' => Made w w' e f false (fun G' : DataW H => G' = G) := by
  have c0 : w.cell? ⟨p, 0, none⟩ = some (.string f.fid) := h.cell 0
  have c1 : w.cell? ⟨p, 1, none⟩ = some (.int .u64 f.token) := h.cell 1
  have c2 : w.cell? ⟨p, 2, none⟩ = some (.int .i64 f.ttl) := h.cell 2
  have c3 : w.cell? ⟨p, 3, none⟩ = some (.map (some b)) := h.cell 3
  have c4 : w.cell? ⟨p, 4, none⟩ = some (.string f.nonce) := h.cell 4
  have c5 : w.cell? ⟨p, 5, none⟩ = some (.string f.group) := h.cell 5
  have c6 : w.cell? ⟨p, 6, none⟩ = some (.int .u64 f.ptoken) := h.cell 6
  have c7 : w.cell? ⟨p, 7, none⟩ = some (.string f.heir) := h.cell 7
  have c8 : w.cell? ⟨p, 8, none⟩ = some (.int .u64 f.prior) := h.cell 8
  have c9 : w.cell? ⟨p, 9, none⟩ = some (.int .u64 f.serial) := h.cell 9
  have hp := h.lt
  have hb := mapIs_lt hm
  have q1 : ∀ (w : World), (binOp .neq 23 (.map (some b)) (.map none)).run Trym.prog w = .ok (.bool true) w := fun w => run_neq_map_nil w _ _ _ (some b) Trym.underlying23
  have hmm := makeMap_hint
  have hl : ∀ o ty, (Builtin.len_ #[23] ty #[.map (some b)]).run Trym.prog (w.alloc o) = .ok (.int .i64 (Maps.size G)) (w.alloc o) := fun o ty => len_is (mapIs_block hm fun b' e => by cases e; exact Below.heap_alloc _ _ _ hb) ty
  have hsz : Maps.size G ≤ n := size_le hm
  clear h
  go_enter Trym.func12, Trym.ntmps12
  go_wp2_with (first
    | (at_range; refine wpList_range_own _ rfl _ 23 rfl 9 9 law Trym.underlying23 _ b n _ rfl (World.ownsMap.alloc (World.ownsMap.alloc hm _) _) ?_; intro w0 hrg0 hg0 hs0)
    | go_in)
  go_frame
  have e1 : ((w.alloc (.cells (cellsOf f (some (w.heap.size + 1))) 35)).alloc (.map #[] 0)).heap.size = w.heap.size + 2 := by simp
  have hg0' : ((w.alloc (.cells (cellsOf f (some (w.heap.size + 1))) 35)).alloc (.map #[] 0)).grownBy w0 none := hg0
  have hrg0' : w0.ranges Trym.prog 9 (plainElem Trym.prog 9) b (w.heap.size + 2) n G (Maps.has G) (Maps.size G) := by rw [← e1]; exact hrg0
  have hls0 : IsLease w0 w.heap.size f (some (w.heap.size + 1)) := ((lease_alloc w f _).block (Below.heap_alloc _ _ _ (by simp))).grown hg0' (by simp)
  have hbl0 : Below w.heap.size w w0 := (((Below.refl _ _).alloc (Nat.le_refl _) _).alloc (by simp) _).grown hg0' (by simp; omega) (fun j hj => by cases hj)
  have hout0 : w0.ownsMap (H := H) Trym.prog 9 (plainElem Trym.prog 9) (w.heap.size + 1) 0 (.map []) := by
    have := (World.ownsMap_made (H := H) (w.alloc (.cells (cellsOf f (some (w.heap.size + 1))) 35)) Trym.prog 9 (plainElem Trym.prog 9)).kept hg0' (by simp)
    simpa using this
  have e2 : ((w.alloc (.cells #[.string f.fid, .int .u64 f.token, .int .i64 f.ttl, .map (some (w.heap.size + 1)), .string f.nonce, .string f.group, .int .u64 f.ptoken, .string f.heir, .int .u64 f.prior, .int .u64 f.serial] 35)).alloc (.map #[] 0)).heap.size = w.heap.size + 2 := by simp
  rw [e2]
  clear e1 e2 hg0 hrg0 hs0 hg0' q1 hmm hl c0 c1 c2 c3 c4 c5 c6 c7 c8 c9
  go_loopw [4] (fun _ wr => ∃ (left : Lit → Bool) (cnt : Nat) (Dout : DataW H), wr.ranges Trym.prog 9 (plainElem Trym.prog 9) b (w.heap.size + 2) n G left cnt ∧ cnt ≤ Maps.size G ∧
      wr.ownsMap Trym.prog 9 (plainElem Trym.prog 9) (w.heap.size + 1) (Maps.size G - cnt) Dout ∧ Agree Dout G left ∧ IsLease wr w.heap.size f (some (w.heap.size + 1)) ∧ Below w.heap.size w wr)
    (fun _ wr => wr.rangeLeft b (w.heap.size + 2))
  case atStart => exact ⟨_, _, .map [], hrg0', Nat.le_refl _, hout0.mono (Nat.zero_le _), agree_start G, hls0, hbl0⟩
  case round =>
    obtain ⟨left, cnt, Dout, hrg, hcs, hout, hA, hls, hnx⟩ := hrel
    clear hrg0' hout0 hls0 hbl0
    go_wp2_with (first
      | (at_next; refine next_ss _ rfl _ rfl b (w.heap.size + 2) n _ _ _ rfl hrg ?_ ?_)
      | go_in)
    · intro hc0 hl0
      go_wp2
      go_ret
      subst hc0
      have e := agree_end hA hl0 (hout.canon law) (World.ownsMap.canon hm law)
      subst e
      exact ⟨_, some (w.heap.size + 1), _, Dout, rfl, Nat.le_refl _, hls, rfl, (fun b' e => by cases e; omega), hn, (hout.mono (by omega)), rfl, hnx⟩
    · intro x c w1 cnt1 hwx hwc hlx hat hrg1 hlt hg1 hs1 hen
      have hout1 := hout.kept hg1 (by simp)
      have hls1 := hls.grown hg1 (by simp)
      have hcm : w1.cell? ⟨w.heap.size, 3, none⟩ = some (.map (some (w.heap.size + 1))) := hls1.cell 3
      go_wp2_with (first
        | (at_mapUpdate; refine wpList_mapUpdate_own _ rfl _ _ _ 23 rfl 9 9 law Trym.underlying23 _ (w.heap.size + 1) _ _ rfl hout1 (by unfold maxLen; omega) _ _ _ rfl rfl (hkey hwx) _ [] (plainElem_string Trym.underlying9 hwc) ?_; intro w2 hout2 hg2; go_frame)
        | go_in)
      have hrg2 := hrg1.kept hg2 (fun e => by have := Option.some.inj e; omega) (fun e => by have := Option.some.inj e; omega)
      go_roundw
      case rel =>
        exact ⟨_, cnt1, _, hrg2, by omega, hout2.mono (by omega), agree_step hA hout.isMap (keyL_is x) hat, hls1.grown hg2 (fun e => by have := Option.some.inj e; omega),
          (hnx.grown hg1 hnx.size (fun j hj => by cases hj; omega)).grown hg2 (by have := hnx.size; omega) (fun j hj => by cases hj; omega)⟩
      case measure => rw [hrg2.left_eq, hrg.left_eq]; exact hlt

theorem zz_null (w : World) : Calls Trym.prog 7 #[.pointer none] w fun e w' => e = .returned (.pointer none) ∧ w' = w := by
  go_enter Trym.func7, Trym.ntmps7
  go_wp2_with (go_at_call 12; refine (copy_null _).mono ?_; rintro e w' ⟨rfl, rfl⟩)
  go_ret
  exact ⟨rfl, rfl⟩

/-- The copy of a lease, whatever its map. -/
theorem zz_any {H : Type} (p : Nat) (m : Option Nat) (n : Nat) (G : DataW H) (f : Fields) (w : World) (h : IsLease w p f m) (hm : mapIs w m n G) (hn : n ≤ 4096) :
    Calls Trym.prog 7 #[.pointer (some ⟨p, 0, none⟩)] w fun e w' => Made w w' e f m.isNone (fun G' : DataW H => G' = G) := by
  have HC : Hid (Calls Trym.prog 12 #[.pointer (some ⟨p, 0, none⟩)] w fun e w' => Made w w' e f m.isNone (fun G' : DataW H => G' = G)) := by
    cases m with
    | none =>
      have hG : G = .nil := hm
      subst hG
      exact copy_nil p f w h
    | some b => exact copy_some p b n G f w h hm hn
  clear h hm hn
  go_enter Trym.func7, Trym.ntmps7
  go_wp2_with fail
  refine HC.out.mono ?_
  rintro e w' ⟨c, m', n', G', rfl, hrest⟩
  go_wp2
  go_ret
  exact ⟨c, m', n', G', rfl, hrest⟩

end Go.Proofs.Qxb6619094aMods.Lease
