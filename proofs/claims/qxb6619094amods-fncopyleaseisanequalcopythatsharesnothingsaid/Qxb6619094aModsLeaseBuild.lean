/-
  Seat b6619094aM: the walk of zzB1Build (function 8).
-/
import Derived.Test.Qxb6619094aModsLeaseCopyMeta
import Derived.Test.Qxb6619094aModsLeaseFields
namespace Go.Proofs.Qxb6619094aMods.Lease
open Go.RowKit Go.Maps Go.WideMaps
set_option linter.unusedVariables false

/-- A new lease has come back: its block and its map's are new; its fields are f; its map reads as some G of which Q holds; nothing that was there has turned. -/
def Made {H : Type} (w w' : World) (e : Ending) (f : Fields) (isnil : Bool) (Q : DataW H → Prop) : Prop :=
  ∃ (p : Nat) (m : Option Nat) (n : Nat) (G : DataW H), e = .returned (.pointer (some ⟨p, 0, none⟩)) ∧ w.heap.size ≤ p ∧ IsLease w' p f m ∧ m.isNone = isnil ∧ (∀ b, m = some b → w.heap.size ≤ b) ∧ n ≤ 4096 ∧ mapIs w' m n G ∧ Q G ∧ Below w.heap.size w w'

theorem lease_alloc (w : World) (f : Fields) (m : Option Nat) : IsLease (w.alloc (.cells (cellsOf f m) 35)) w.heap.size f m := by
  show (w.heap.push _)[w.heap.size]? = _
  simp

set_option maxHeartbeats 1000000 in
theorem build_nil {H : Type} (f : Fields) (a : Option Addr) (cap : Nat) (ks : List ByteArray) (w : World) :
    Calls Trym.prog 8 #[.string f.fid, .int .u64 f.token, .int .i64 f.ttl, .map none, .slice a 0 cap, .string f.nonce, .string f.group, .int .u64 f.ptoken, .string f.heir, .int .u64 f.prior, .int .u64 f.serial] w
      fun e w' => Made w w' e f true (fun G : DataW H => Filled G .nil 0 ks) := by
  go_enter Trym.func8, Trym.ntmps8
  go_wp2_with (go_at_call 13; refine (copyMeta_nil _ _ _ _).mono ?_; rintro e w' ⟨rfl, rfl⟩)
  go_ret
  refine ⟨_, none, 0, .nil, rfl, Nat.le_refl _, lease_alloc _ f none, rfl, (fun b e => by cases e), by omega, rfl, ?_, (Below.refl _ _).alloc (Nat.le_refl _) _⟩
  exact ⟨rfl, fun i hi => absurd hi (Nat.not_lt_zero _), fun i hi => absurd hi (Nat.not_lt_zero _)⟩

set_option maxHeartbeats 1000000 in
theorem build_some {H : Type} (f : Fields) (b n : Nat) (D : DataW H) (a : Option Addr) (len cap : Nat) (ks : List ByteArray) (w : World)
    (hm : mapIs w (some b) n D) (hk : IsKeys w a len ks) (hl4 : len ≤ 4096) (hv : ∀ i, i < len → (val D (ks.getD i ByteArray.empty)).size ≤ 1048576)
    (hup : ∀ i, i + 1 < len → Op.bytesLess (ks.getD i ByteArray.empty).toList (ks.getD (i + 1) ByteArray.empty).toList = true) :
    Calls Trym.prog 8 #[.string f.fid, .int .u64 f.token, .int .i64 f.ttl, .map (some b), .slice a len cap, .string f.nonce, .string f.group, .int .u64 f.ptoken, .string f.heir, .int .u64 f.prior, .int .u64 f.serial] w
      fun e w' => Made w w' e f false (fun G : DataW H => Filled G D len ks) := by
  have HC : Hid (Calls Trym.prog 13 #[.map (some b), .slice a len cap] w fun e w' => e = .returned (.map (some w.heap.size)) ∧ Below w.heap.size w w' ∧
      ∃ G : DataW H, mapIs w' (some w.heap.size) len G ∧ FilledTo G D len ks) := copyMeta_any b n D a len cap ks w hm hk hl4 hv hup
  clear hm hk hv hup
  go_enter Trym.func8, Trym.ntmps8
  go_wp2_with fail
  refine HC.out.mono ?_
  rintro e w1 ⟨rfl, hb, G, hG, hfill⟩
  go_wp2
  go_ret
  refine ⟨_, some w.heap.size, len, G, rfl, hb.size, lease_alloc w1 f _, rfl, (fun b' e => by cases e; exact Nat.le_refl _), hl4, ?_, ⟨hfill.hsize, hfill.hhas, hfill.hval⟩, hb.alloc hb.size _⟩
  exact World.ownsMap.alloc hG _

end Go.Proofs.Qxb6619094aMods.Lease
