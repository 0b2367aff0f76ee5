/-
  Seat b6619094aM: a lease's block; the walk of zzB1FieldsAre (function 9).
-/
import Derived.Test.Qxb6619094aModsLeaseBase
namespace Go.Proofs.Qxb6619094aMods.Lease
open Go.RowKit Go.Maps Go.WideMaps
set_option linter.unusedVariables false

/-- The fields of a lease but its Meta. -/
structure Fields where
  fid : ByteArray
  token : Int
  ttl : Int
  nonce : ByteArray
  group : ByteArray
  ptoken : Int
  heir : ByteArray
  prior : Int
  serial : Int

/-- The ten cells of a lease. -/
def cellsOf (f : Fields) (m : Option Nat) : Array Value :=
  #[.string f.fid, .int .u64 f.token, .int .i64 f.ttl, .map m, .string f.nonce, .string f.group, .int .u64 f.ptoken, .string f.heir, .int .u64 f.prior, .int .u64 f.serial]

/-- Block p of w is a lease. -/
def IsLease (w : World) (p : Nat) (f : Fields) (m : Option Nat) : Prop := w.heap[p]? = some (.cells (cellsOf f m) 35)

theorem IsLease.lt {w : World} {p : Nat} {f : Fields} {m : Option Nat} (h : IsLease w p f m) : p < w.heap.size := (Array.getElem?_eq_some_iff.1 h).1

theorem IsLease.cell {w : World} {p : Nat} {f : Fields} {m : Option Nat} (h : IsLease w p f m) (i : Nat) : w.cell? ⟨p, i, none⟩ = (cellsOf f m)[i]? := by
  unfold IsLease at h
  simp [World.cell?, h]

theorem IsLease.frozen {w : World} {p : Nat} {f : Fields} {m : Option Nat} (h : IsLease w p f m) (i : Nat) : w.frozen? ⟨p, i, none⟩ = false := by
  unfold IsLease at h
  simp [World.frozen?, h]

set_option maxHeartbeats 1000000 in
theorem fields_any (w : World) (p : Nat) (f : Fields) (m : Option Nat) (h : IsLease w p f m) :
    Calls Trym.prog 9 #[.pointer (some ⟨p, 0, none⟩), .string f.fid, .int .u64 f.token, .int .i64 f.ttl, .string f.nonce, .string f.group, .int .u64 f.ptoken, .string f.heir, .int .u64 f.prior, .int .u64 f.serial] w
      fun e w' => e = .returned (.bool true) ∧ w' = w := by
  have c0 : w.cell? ⟨p, 0, none⟩ = some (.string f.fid) := h.cell 0
  have c1 : w.cell? ⟨p, 1, none⟩ = some (.int .u64 f.token) := h.cell 1
  have c2 : w.cell? ⟨p, 2, none⟩ = some (.int .i64 f.ttl) := h.cell 2
  have c4 : w.cell? ⟨p, 4, none⟩ = some (.string f.nonce) := h.cell 4
  have c5 : w.cell? ⟨p, 5, none⟩ = some (.string f.group) := h.cell 5
  have c6 : w.cell? ⟨p, 6, none⟩ = some (.int .u64 f.ptoken) := h.cell 6
  have c7 : w.cell? ⟨p, 7, none⟩ = some (.string f.heir) := h.cell 7
  have c8 : w.cell? ⟨p, 8, none⟩ = some (.int .u64 f.prior) := h.cell 8
  have c9 : w.cell? ⟨p, 9, none⟩ = some (.int .u64 f.serial) := h.cell 9
  clear h
  go_enter Trym.func9, Trym.ntmps9
  go_wp2
  go_ret
  exact ⟨rfl, rfl⟩

end Go.Proofs.Qxb6619094aMods.Lease
