/-
  Seat b6619094aM: words for the walks over leases: a map of strings as it reads, the keys' slice, a lease's block; and the run equations that the walks take.
-/
import Derived.Test.Qxb6619094aModsRows
import Derived.WalkKit
import Derived.ProofKit
import Derived.WalkSpells
import Derived.Maps.Ext
import Derived.Maps.OwnSet
import Derived.Maps.RangeWalk
import Derived.Maps.StringElems
namespace Go.Proofs.Qxb6619094aMods.Lease
open Go.RowKit Go.Maps Go.WideMaps

theorem law : Keyed Trym.prog 9 := string_keyed Trym.underlying9
theorem zero9 (w : World) : (zeroValue 9).run Trym.prog w = .ok (.string ByteArray.empty) w := by kernel_rfl

section
variable {H : Type}

/-- The key's datum. -/
def keyL (s : ByteArray) : Lit := .string s.data.toList

theorem keyL_inj {s t : ByteArray} (h : keyL s = keyL t) : s = t := by
  unfold keyL at h
  injection h with h
  have e : s.data = t.data := Array.toList_inj.1 h
  cases s; cases t; cases e; rfl

theorem keyL_is (s : ByteArray) : WideAt.IsKeyLit (keyL s) := trivial

theorem hkey {s : ByteArray} (hs : s.size ≤ maxLen) : keyOf Trym.prog 9 (.string s) = some (keyL s) := keyOf_string_mk Trym.underlying9 hs

/-- A map value of type map[string]string, as it reads: nil as '.nil'. -/
def mapIs (w : World) (o : Option Nat) (n : Nat) (D : DataW H) : Prop :=
  match o with
  | none => D = .nil
  | some b => w.ownsMap Trym.prog 9 (plainElem Trym.prog 9) b n D

/-- The string at a key; the empty one where there is none. -/
def val (D : DataW H) (s : ByteArray) : ByteArray :=
  match D.atKey (keyL s) (.lit (.string [])) with
  | .lit (.string l) => ⟨l.toArray⟩
  | _ => ByteArray.empty

theorem val_of {D : DataW H} {s v : ByteArray} (h : D.atKey (keyL s) (.lit (.string [])) = .lit (.string v.data.toList)) : val D s = v := by
  unfold val
  rw [h]

theorem empty_elem : plainElem (H := H) Trym.prog 9 (.string ByteArray.empty) = some (.lit (.string []), []) :=
  plainElem_string Trym.underlying9 (s := ByteArray.empty) (by unfold maxLen; exact Nat.zero_le _)

/-- 'v, ok := m[k]'. -/
theorem look_ok {w : World} {o : Option Nat} {n : Nat} {D : DataW H} (h : mapIs w o n D) {s : ByteArray} (hs : s.size ≤ maxLen) :
    (Instr.lookup 23 (.map o) (.string s) true).run Trym.prog w = .ok (.tuple #[.string (val D s), .bool (Maps.has D (keyL s))]) w ∧
    D.atKey (keyL s) (.lit (.string [])) = .lit (.string (val D s).data.toList) ∧ (val D s).size ≤ maxLen := by
  cases o with
  | none =>
    have h' : D = .nil := h
    subst h'
    refine ⟨?_, rfl, by unfold maxLen; exact Nat.zero_le _⟩
    have := Maps.look_nil (w := w) true law Trym.underlying23 (zero9 w) (hkey hs)
    exact this
  | some b =>
    obtain ⟨v, ps, hrun, hv⟩ := World.ownsMap.look_ok h law Trym.underlying23 (zero9 w) empty_elem (hkey hs)
    obtain ⟨c, rfl, hc, hcs⟩ := plainElem_string_inv Trym.underlying9 hv
    simp only [Prod.mk.injEq] at hc
    have e := val_of hc.1
    rw [e]
    exact ⟨hrun, hc.1, hcs⟩

/-- 'm[k]'. -/
theorem look {w : World} {o : Option Nat} {n : Nat} {D : DataW H} (h : mapIs w o n D) {s : ByteArray} (hs : s.size ≤ maxLen) :
    (Instr.lookup 23 (.map o) (.string s) false).run Trym.prog w = .ok (.string (val D s)) w := by
  cases o with
  | none =>
    have h' : D = .nil := h
    subst h'
    exact Maps.look_nil (w := w) false law Trym.underlying23 (zero9 w) (hkey hs)
  | some b =>
    obtain ⟨v, ps, hrun, hv⟩ := World.ownsMap.lookup h law Trym.underlying23 (zero9 w) empty_elem (hkey hs)
    obtain ⟨c, rfl, hc, hcs⟩ := plainElem_string_inv Trym.underlying9 hv
    simp only [Prod.mk.injEq] at hc
    rw [val_of hc.1]
    exact hrun

/-- 'len(m)'. -/
theorem len_is {w : World} {o : Option Nat} {n : Nat} {D : DataW H} (h : mapIs w o n D) (ty : TypeId) :
    (Builtin.len_ #[23] ty #[.map o]).run Trym.prog w = .ok (.int .i64 (Maps.size D)) w := by
  cases o with
  | none =>
    have h' : D = .nil := h
    subst h'
    exact Maps.len_nil Trym.underlying23 ty
  | some b => exact World.ownsMap.len h Trym.underlying23 ty

theorem mapIs_lt {w : World} {b n : Nat} {D : DataW H} (h : mapIs w (some b) n D) : b < w.heap.size := World.ownsMap.lt h

/-- A map reads the same wherever its block is the same. -/
theorem mapIs_block {w w' : World} {o : Option Nat} {n : Nat} {D : DataW H} (h : mapIs w o n D) (hb : ∀ b, o = some b → w'.heap[b]? = w.heap[b]?) : mapIs w' o n D := by
  cases o with
  | none => exact h
  | some b =>
    obtain ⟨es, clock, h1, r⟩ := h
    exact ⟨es, clock, (hb b rfl).trans h1, r⟩

theorem mapIs_below {B : Nat} {w w' : World} {o : Option Nat} {n : Nat} {D : DataW H} (h : mapIs w o n D) (hb : Below B w w') (hl : ∀ b, o = some b → b < B) : mapIs w' o n D :=
  mapIs_block h fun b e => hb.block b (hl b e)

theorem size_le {w : World} {o : Option Nat} {n : Nat} {D : DataW H} (h : mapIs w o n D) : Maps.size D ≤ n := by
  cases o with
  | none =>
    have h' : D = .nil := h
    subst h'
    exact Nat.zero_le _
  | some b => exact World.ownsMap.size_le h

end

/-- A length within the form's reach is a length. -/
theorem le_maxLen {n : Nat} (h : n ≤ 140737488355328) : n ≤ maxLen := by unfold maxLen; omega

/-- THE KEYS' SLICE: 'len' strings, each of a length that is one; its cells hold them. -/
structure IsKeys (w : World) (a : Option Addr) (len : Nat) (ks : List ByteArray) : Prop where
  count : ks.length = len
  short : len ≤ maxLen
  sized : ∀ i, i < len → (ks.getD i ByteArray.empty).size ≤ 140737488355328
  cells : ∀ i, i < len → ∃ b off, a = some ⟨b, off, none⟩ ∧ w.cell? ⟨b, off + i, none⟩ = some (.string (ks.getD i ByteArray.empty))

theorem IsKeys.below {B : Nat} {w w' : World} {a : Option Addr} {len : Nat} {ks : List ByteArray} (h : IsKeys w a len ks) (hb : Below B w w') (hB : w.heap.size ≤ B) : IsKeys w' a len ks :=
  ⟨h.count, h.short, h.sized, fun i hi => by
    obtain ⟨b, off, e, hc⟩ := h.cells i hi
    exact ⟨b, off, e, (hb.cell (Nat.lt_of_lt_of_le (World.block_lt_of_cell? _ _ hc) hB)).trans hc⟩⟩

/-- A guard's answer: it returns a bool; where that is true, p holds; nothing that was there has turned. -/
def Verdict (p : Prop) (e : Ending) (w w' : World) : Prop := ∃ b, e = .returned (.bool b) ∧ Below w.heap.size w w' ∧ (b = true → p)

theorem Verdict.no {p : Prop} {e : Ending} {w w' : World} (h : e = .returned (.bool false)) (hb : Below w.heap.size w w') : Verdict p e w w' := ⟨false, h, hb, fun hf => by cases hf⟩
theorem Verdict.yes {p : Prop} {e : Ending} {w w' : World} (h : e = .returned (.bool true)) (hb : Below w.heap.size w w') (hp : p) : Verdict p e w w' := ⟨true, h, hb, fun _ => hp⟩

end Go.Proofs.Qxb6619094aMods.Lease
