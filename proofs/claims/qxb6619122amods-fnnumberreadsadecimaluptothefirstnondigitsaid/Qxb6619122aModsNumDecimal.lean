/-
  Seat b6619122aM: rows that the call itself has made; the walk of zzDecimal (8).
-/
import Derived.Test.Qxb6619122aModsNumBase
import Derived.Deep.OwnRows
namespace Go.Proofs.Qxb6619122aMods.Num
open Go.RowKit
set_option linter.unusedVariables false

/-- Block N is a row of the bytes xs. -/
def RowAt (w : World) (N : Nat) (t : TypeId) (xs : List Int) : Prop := w.heap[N]? = some (.cells (xs.map (Value.int .u8)).toArray t)

theorem RowAt.lt {w : World} {N : Nat} {t : TypeId} {xs : List Int} (h : RowAt w N t xs) : N < w.heap.size := (Array.getElem?_eq_some_iff.1 h).1

theorem RowAt.cell {w : World} {N : Nat} {t : TypeId} {xs : List Int} (h : RowAt w N t xs) {i : Nat} (hi : i < xs.length) : w.cell? ⟨N, i, none⟩ = some (.int .u8 (xs.getD i 0)) := by
  unfold RowAt at h
  simp [World.cell?, h, List.getElem?_eq_getElem hi, List.getD_eq_getElem?_getD]

theorem RowAt.frozen {w : World} {N : Nat} {t : TypeId} {xs : List Int} (h : RowAt w N t xs) (i : Nat) : w.frozen? ⟨N, i, none⟩ = false := by
  unfold RowAt at h
  simp [World.frozen?, h]

theorem RowAt.block {w w' : World} {N : Nat} {t : TypeId} {xs : List Int} (h : RowAt w N t xs) (hb : w'.heap[N]? = w.heap[N]?) : RowAt w' N t xs := hb.trans h

theorem RowAt.below {B : Nat} {w w' : World} {N : Nat} {t : TypeId} {xs : List Int} (h : RowAt w N t xs) (hb : Below B w w') (hN : N < B) : RowAt w' N t xs := h.block (hb.block N hN)

theorem RowAt.store {w : World} {N : Nat} {t : TypeId} {xs : List Int} (h : RowAt w N t xs) (i : Nat) (x : Int) : RowAt (w.setCell ⟨N, i, none⟩ (.int .u8 x)) N t (xs.set i x) := by
  unfold RowAt at h ⊢
  simp only [World.setCell, Array.getElem?_modify, if_true, h]
  simp [List.map_set]

theorem RowAt.other {w : World} {N M : Nat} {t : TypeId} {xs : List Int} (h : RowAt w N t xs) (i : Nat) (u : Value) (hne : N ≠ M) : RowAt (w.setCell ⟨M, i, none⟩ u) N t xs :=
  h.block (Below.heap_setCell _ _ _ _ hne)

theorem rowAt_alloc (w : World) (t : TypeId) (xs : List Int) : RowAt (w.alloc (.cells (xs.map (Value.int .u8)).toArray t)) w.heap.size t xs := by
  show (w.heap.push _)[w.heap.size]? = _
  simp

theorem made_zeros (n : Nat) : madeCells #[.int .u8 0] n = Array.replicate n (.int .u8 0) := by
  apply Array.ext
  · simp [madeCells]
  · intro i h1 h2
    simp [madeCells, Nat.mod_one]

theorem rowAt_zeros (w : World) (n : Nat) : RowAt (w.alloc (.cells (Array.replicate n (.int .u8 0)) 5)) w.heap.size 5 (List.replicate n 0) := by
  show (w.heap.push _)[w.heap.size]? = _
  simp

theorem RowAt.row {w : World} {N : Nat} {t : TypeId} {xs : List Int} (h : RowAt w N t xs) (hs : xs.length ≤ 140737488355328) (hb : ∀ i, i < xs.length → 0 ≤ xs.getD i 0 ∧ xs.getD i 0 ≤ 255) {n : Nat} (hn : xs.length = n) : Row w (some ⟨N, 0, none⟩) n xs := by
  subst hn
  exact ⟨rfl, hs, hb, fun i hi => ⟨N, 0, rfl, by rw [Nat.zero_add]; exact h.cell hi⟩⟩

theorem info5 : (Trym.prog.info? 5).map (fun i => (i.zero, i.size, i.bytes)) = some (some (.int .u8 0), 1, 1) := by kernel_rfl

theorem make_run (n : Nat) (hn : n ≤ 140737488355328) (w : World) : (Instr.makeSlice 22 (.int .i64 (n : Int)) (.int .i64 (n : Int))).run Trym.prog w =
    .ok (.slice (some ⟨w.heap.size, 0, none⟩) n n) (w.alloc (.cells (Array.replicate n (.int .u8 0)) 5)) := by
  rw [← made_zeros]
  exact run_make_row' 22 5 (.int .u8 0) 1 Trym.underlying22 info5 rfl .i64 .i64 n (by omega) (by omega) w

/-- zzDecimal's end: a new row, the writing of v. -/
def DecMade (w w' : World) (e : Ending) (v : Nat) : Prop :=
  ∃ N, e = .returned (.slice (some ⟨N, 0, none⟩) (dec v).length (dec v).length) ∧ w.heap.size ≤ N ∧ RowAt w' N 5 (dec v) ∧ Below w.heap.size w w'

theorem decimal_zero (w : World) : Calls Trym.prog 8 #[.int .i64 0] w fun e w' => DecMade w w' e 0 := by
  go_enter Trym.func8, Trym.ntmps8
  go_wp2
  go_ret
  exact ⟨_, rfl, Nat.le_refl _, rowAt_alloc w 5 [48], (Below.refl _ _).alloc (Nat.le_refl _) _⟩

theorem drop_set_pred {B : List Int} {q : Nat} (x : Int) (h : q < B.length) : (B.set q x).drop q = x :: B.drop (q + 1) := by
  rw [List.drop_eq_getElem_cons (by simpa using h), List.drop_set_of_lt (by omega)]
  simp

set_option maxHeartbeats 1000000 in
theorem decimal_pos (v : Nat) (h0 : v ≠ 0) (hv : v < 10 ^ 18) (w : World) : Calls Trym.prog 8 #[.int .i64 v] w fun e w' => DecMade w w' e v := by
  have hpos : (0 : Int) < (v : Int) := by omega
  go_enter Trym.func8, Trym.ntmps8
  go_wp2
  go_loopw [0, 4] (fun vv i wr => ∃ (p u : Nat) (B : List Int), 6 ≤ p ∧ p ≤ 24 ∧ vv = .int .i64 u ∧ i = .int .i64 p ∧ B.length = 24 ∧ u < 10 ^ (p - 6) ∧ Hid (dig p u ++ B.drop p = dig 24 v) ∧ RowAt wr w.heap.size 30 B ∧ Below w.heap.size w wr) (fun vv _ _ => (intOf vv).toNat)
  case atStart => exact ⟨24, v, List.replicate 24 0, by omega, by omega, rfl, rfl, rfl, hv, (by show _ = _; simp), rowAt_alloc w 30 (List.replicate 24 0), (Below.refl _ _).alloc (Nat.le_refl _) _⟩
  case round =>
    obtain ⟨p, u, B, hp6, hp24, rfl, rfl, hBl, hu, HD, hrow, hbel⟩ := hrel
    have hu18 : u < 1000000000000000000 := Nat.lt_of_lt_of_le hu (Nat.le_trans (Nat.pow_le_pow_right (by omega) (by omega : p - 6 ≤ 18)) (by decide))
    have HBL : Hid (B.length = 24) := hBl
    clear hBl
    by_cases hu0 : 0 < u
    · have hp7 : 7 ≤ p := by
        by_cases h : p = 6
        · subst h; simp at hu; omega
        · omega
      obtain ⟨q, rfl⟩ : ∃ q, p = q + 1 := ⟨p - 1, by omega⟩
      have hcell := hrow.cell (i := q) (by rw [HBL.out]; omega)
      have hfz := hrow.frozen q
      have hud : u / 10 < 10 ^ (q - 6) := by
        have e : 10 ^ (q + 1 - 6) = 10 ^ (q - 6) * 10 := by rw [show q + 1 - 6 = (q - 6) + 1 by omega, Nat.pow_succ]
        rw [e] at hu
        omega
      have HD2 : Hid (dig q (u / 10) ++ (B.set q (48 + ((u % 10 : Nat) : Int))).drop q = dig 24 v) := by
        have h := HD.out
        rw [dig_succ q u (by omega)] at h
        show _ = _
        rw [drop_set_pred _ (by rw [HBL.out]; omega), ← h]
        simp
      clear hu HD
      go_wp2
      go_roundw
      case rel =>
        have e1 : (48 : Int) + (u : Int) % 10 = 48 + ((u % 10 : Nat) : Int) := by omega
        refine ⟨q, u / 10, B.set q (48 + ((u % 10 : Nat) : Int)), by omega, by omega, by go_num, rfl, by rw [List.length_set]; exact HBL.out, hud, HD2, ?_, hbel.setCell (Nat.le_refl _) _⟩
        rw [e1]
        exact hrow.store q _
      case measure => simp [intOf]; omega
    · have e0 : u = 0 := by omega
      subst e0
      obtain ⟨n, hn⟩ : ∃ n, p + n = 24 := ⟨24 - p, by omega⟩
      have hmk : ∀ w : World, (Instr.makeSlice 22 (.int .i64 (24 - (p : Int))) (.int .i64 (24 - (p : Int)))).run Trym.prog w =
          .ok (.slice (some ⟨w.heap.size, 0, none⟩) n n) (w.alloc (.cells (Array.replicate n (.int .u8 0)) 5)) := fun w => by
        rw [show (24 : Int) - (p : Int) = (n : Int) by omega]
        exact make_run n (by omega) w
      have HDV : Hid (B.drop p = dec v) := by
        have h := HD.out
        rw [dig_zero, List.nil_append] at h
        show _ = _
        unfold dec
        rw [if_neg h0, h]
      have hnl : Hid ((dec v).length = n) := by
        rw [← HDV.out, List.length_drop, HBL.out]; show _ = _; omega
      clear HD hu hu18
      go_wp2_with fail
      obtain ⟨wo, hwo⟩ : ∃ wo : World, wo = wr := ⟨_, rfl⟩
      subst hwo
      have hz := hbel.size
      clear hmk
      go_loopw [6] (fun i wr => ∃ (m : Nat) (O : List Int), m ≤ n ∧ i = .int .i64 m ∧ Hid (O.length = n) ∧ Hid (∀ j, j < m → O.getD j 0 = (dec v).getD j 0) ∧ RowAt wr w.heap.size 30 B ∧ RowAt wr wo.heap.size 5 O ∧ Below w.heap.size w wr) (fun i _ => n - (intOf i).toNat)
      case atStart =>
        have hlt := hrow.lt
        exact ⟨0, List.replicate n 0, Nat.zero_le _, rfl, (by show _ = _; simp), fun j hj => absurd hj (Nat.not_lt_zero _), hrow.block (Below.heap_alloc _ _ _ hlt), rowAt_zeros wo n, hbel.alloc hz _⟩
      case round =>
        obtain ⟨m, O, hmn, rfl, HOL, HO, hrB, hrO, hb2⟩ := hrel
        have hlt := hrow.lt
        clear hrow
        by_cases hm : m < n
        · have hc1 := hrB.cell (i := p + m) (by rw [HBL.out]; omega)
          have hx : Hid (B.getD (p + m) 0 = (dec v).getD m 0) := by
            rw [← HDV.out, List.getD_eq_getElem?_getD, List.getD_eq_getElem?_getD, List.getElem?_drop]; rfl
          generalize B.getD (p + m) 0 = x at *
          have hc2 := hrO.cell (i := m) (by rw [HOL.out]; exact hm)
          have hf2 := hrO.frozen m
          go_wp2
          go_roundw
          case rel =>
            exact ⟨m + 1, O.set m x, by omega, by go_num, (by show _ = _; rw [List.length_set]; exact HOL.out), fill_step (by rw [HOL.out]; exact hm) HO.out hx.out, hrB.other _ _ (by omega), hrO.store m x, hb2.setCell hz _⟩
          case measure => simp [intOf]; omega
        · go_wp2
          go_ret
          have em : m = n := by omega
          subst em
          have hO : O = dec v := fill_end (by rw [HOL.out, hnl.out]) (fun j hj => HO.out j (by rw [← hnl.out]; exact hj))
          refine ⟨wo.heap.size, ?_, hz, by rw [← hO]; exact hrO, hb2⟩
          rw [hnl.out]
          rfl

theorem decimal_any (v : Nat) (hv : v < 10 ^ 18) (w : World) : Calls Trym.prog 8 #[.int .i64 v] w fun e w' => DecMade w w' e v := by
  by_cases h0 : v = 0
  · subst h0; exact decimal_zero w
  · exact decimal_pos v h0 hv w

end Go.Proofs.Qxb6619122aMods.Num
