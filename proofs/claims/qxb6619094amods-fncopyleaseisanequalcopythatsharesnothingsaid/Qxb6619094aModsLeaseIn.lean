/-
  Seat b6619094aM: from the arguments as the form reads them to what the walks are told.
-/
import Derived.Test.Qxb6619094aModsLeaseLaw
import Derived.ProofKit
import Derived.OpenShut
import Derived.ShutString
import Derived.ChangeOld
import Derived.Below
import Derived.SliceStrings
import Derived.SizedLaws
namespace Go.Proofs.Qxb6619094aMods.Lease
open Go.RowKit Go.Maps Go.WideMaps Go.WideElems Go.ChangeShapes Go.WideShapes Go.ChangeAt
set_option linter.unusedVariables false

theorem cells9 : Trym.prog.cellsOf 9 = 1 := by kernel_rfl
theorem bytes9 : Trym.prog.bytesOf 9 = 16 := by kernel_rfl

section
variable {H : Type} {enc : TypeId × Value → H} {W : World}

theorem map_in {o : Option Nat} {d : DataW H} {p : List MemPlace} (h : DataW.Trod enc Trym.prog W 0 (fun _ => true) true 23 (.map o) d p) : ∃ n, mapIs W o n d := by
  obtain ⟨fuel, hf⟩ := h
  rcases WideElems.open_map Trym.underlying23 hf with ⟨hcs, hx⟩ | ⟨bm, es, clock, m, rfl, hcs, hb, _, F, hx⟩
  · simp [Value.cells] at hcs
    subst hcs
    simp only [Prod.mk.injEq] at hx
    exact ⟨0, hx.1⟩
  · simp [Value.cells] at hcs
    subst hcs
    simp only [Prod.mk.injEq] at hx
    refine ⟨es.size, ?_⟩
    rw [hx.1]
    exact World.ownsMap_of_fit (R := plainElem Trym.prog 9) hb F (fun x _ z hz => elemAt_plainElem_string Trym.underlying9 hz)

theorem weights_entries {P : Program} {e : TypeId} : ∀ {es : List (Lit × DataW H)} {x : Lit × DataW H}, x ∈ es → ∀ n ∈ x.2.weights P e, n ∈ DataW.weightsEntries P e es
  | y :: r, x, hx, n, hn => by
    rw [DataW.weightsEntries, List.mem_append]
    rcases List.mem_cons.1 hx with e1 | hx'
    · subst e1
      left
      obtain ⟨k, d⟩ := x
      unfold DataW.weightsEntry
      split
      · rename_i heq; cases heq; exact List.mem_cons_of_mem _ hn
      · rename_i heq; cases heq; exact hn
    · exact Or.inr (weights_entries hx' n hn)

theorem weights_all {P : Program} {e : TypeId} : ∀ {l : List (DataW H)} {x : DataW H}, x ∈ l → ∀ n ∈ x.weights P e, n ∈ DataW.weightsAll P e l
  | y :: r, x, hx, n, hn => by
    rw [DataW.weightsAll, List.mem_append]
    rcases List.mem_cons.1 hx with e1 | hx'
    · subst e1; exact Or.inl hn
    · exact Or.inr (weights_all hx' n hn)

theorem val_in {D : DataW H} (hw : ∀ n ∈ D.weights Trym.prog 23, n ≤ reachBytes) (s : ByteArray) : (val D s).size ≤ 140737488355328 := by
  unfold val
  split
  · rename_i l hl
    show l.toArray.size ≤ _
    rw [List.size_toArray]
    unfold DataW.atKey at hl
    split at hl
    · rename_i entries
      split at hl
      · rename_i q hq
        have hm := List.mem_of_find?_eq_some hq
        have : l.length ≤ reachBytes := by
          refine hw _ ?_
          rw [DataW.weights, Trym.underlying23]
          refine List.mem_cons_of_mem _ (weights_entries hm _ ?_)
          rw [hl]
          simp [DataW.weights]
        simp only [reachBytes] at this
        omega
      · cases hl; exact Nat.zero_le _
    · cases hl; exact Nat.zero_le _
  · exact Nat.zero_le _

theorem size_in {D : DataW H} (hw : ∀ n ∈ D.weights Trym.prog 23, n ≤ reachBytes) : Maps.size D ≤ 140737488355328 := by
  unfold Maps.size
  split
  · rename_i es
    have h := hw (es.length * (Trym.prog.bytesOf 9 + Trym.prog.bytesOf 9)) (by rw [DataW.weights, Trym.underlying23]; exact List.mem_cons_self)
    rw [bytes9] at h
    simp only [reachBytes] at h
    omega
  · exact Nat.zero_le _

theorem keys_in {a : Option Addr} {len cap : Nat} {d : DataW H} {p : List MemPlace} (h : DataW.Trod enc Trym.prog W 0 (fun _ => true) true 24 (.slice a len cap) d p) (hw : ∀ n ∈ d.weights Trym.prog 24, n ≤ reachBytes) :
    ∃ ks, IsKeys W a len ks := by
  obtain ⟨fuel, hf⟩ := h
  rcases open_strings Trym.underlying24 Trym.underlying9 cells9 hf with ⟨hcs, hx⟩ | ⟨x, l, c, ss, hcs, _, hl, hm, hz, hx, hcell, hws⟩
  · simp [Value.cells] at hcs
    obtain ⟨rfl, rfl, rfl⟩ := hcs
    exact ⟨[], rfl, Nat.zero_le _, fun i hi => absurd hi (Nat.not_lt_zero _), fun i hi => absurd hi (Nat.not_lt_zero _)⟩
  · simp [Value.cells] at hcs
    obtain ⟨rfl, rfl, rfl⟩ := hcs
    simp only [if_true] at hz
    simp only [Prod.mk.injEq] at hx
    have hg : ∀ i, i < len → (ss.take len).getD i ByteArray.empty = ss.getD i ByteArray.empty := fun i hi => by
      simp [List.getD_eq_getElem?_getD, hi]
    refine ⟨ss.take len, by rw [List.length_take]; omega, Nat.le_trans hl hm, fun i hi => ?_, fun i hi => ?_⟩
    · have hmem : (ss.take len).getD i ByteArray.empty ∈ ss.take len := by
        have hi' : i < (ss.take len).length := by rw [List.length_take]; omega
        rw [List.getD_eq_getElem?_getD, List.getElem?_eq_getElem hi', Option.getD_some]
        exact List.getElem_mem hi'
      have : ((ss.take len).getD i ByteArray.empty).data.toList.length ≤ reachBytes := by
        refine hw _ ?_
        rw [hx.1, DataW.weights, Trym.underlying24]
        refine List.mem_cons_of_mem _ (List.mem_append_left _ (weights_all (x := .lit (.string ((ss.take len).getD i ByteArray.empty).data.toList)) ?_ _ (by simp [DataW.weights])))
        exact List.mem_map.2 ⟨_, hmem, rfl⟩
      simp only [reachBytes] at this
      show ((ss.take len).getD i ByteArray.empty).data.size ≤ _
      rw [← Array.length_toList]
      omega
    · have h0 : x.spot = none := by
        have := World.cell?_spot (hcell 0 (by omega))
        simpa [Addr.add] using this
      obtain ⟨b, off, spot⟩ := x
      cases h0
      refine ⟨b, off, rfl, ?_⟩
      rw [hg i hi, ← Go.WideShapes.add_plain]
      exact hcell i (by omega)

/-- One argument's weights out of all. -/
theorem weight_at {ts : List TypeId} {ds : List (DataW H)} (h : (DataW.weightsEach Trym.prog ts ds).all (· ≤ reachBytes) = true) {j : Nat} {t : TypeId} {d : DataW H} (ht : ts[j]? = some t) (hd : ds[j]? = some d) :
    ∀ n ∈ d.weights Trym.prog t, n ≤ reachBytes := fun n hn => by
  have := List.all_eq_true.1 h _ (DataW.weights_mem_each ht hd n hn)
  simpa using this

theorem string_at {ts : List TypeId} {ds : List (DataW H)} (h : (DataW.weightsEach Trym.prog ts ds).all (· ≤ reachBytes) = true) {j : Nat} {t : TypeId} {s : ByteArray} (ht : ts[j]? = some t) (hd : ds[j]? = some (.lit (.string s.data.toList))) :
    s.size ≤ 140737488355328 := by
  have := sized_string h ht hd
  simp only [reachBytes, Array.length_toList] at this
  show s.data.size ≤ _
  omega

end
end Go.Proofs.Qxb6619094aMods.Lease
