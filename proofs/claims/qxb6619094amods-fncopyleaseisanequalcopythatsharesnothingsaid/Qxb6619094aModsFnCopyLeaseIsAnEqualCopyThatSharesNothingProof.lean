/-
  THE PROOF OF 'Rows.FnCopyLeaseIsAnEqualCopyThatSharesNothingSaid' (function 3): the walk's contract carried to the row.
-/
import Derived.Test.Qxb6619094aModsRows
import Derived.Test.Qxb6619094aModsLeaseLaw
import Derived.Test.Qxb6619094aModsLeaseIn
namespace Go.Proofs.Qxb6619094aMods.fnCopyLeaseIsAnEqualCopyThatSharesNothing
open Go.ChangeShapes Go.WideShapes Go.ChangeAt Go.RowKit
open Go.ChangeMaps (open_string shut_string)
set_option linter.unusedVariables false

theorem own : ownKnob Trym.prog.godebug = none := by kernel_rfl
theorem laidOut : laidOutB Trym.prog = true := by kernel_rfl

theorem walk {H : Type} (x : Bool) (f : Lease.Fields) (o : Option Nat) (n : Nat) (D : DataW H) (a : Option Addr) (len cap : Nat) (ks : List ByteArray) (w : World) (I : Lease.Input w f o n D a len ks) :
    Calls Trym.prog 3 #[.bool x, .string f.fid, .int .u64 f.token, .int .i64 f.ttl, .map o, .slice a len cap, .string f.nonce, .string f.group, .int .u64 f.ptoken, .string f.heir, .int .u64 f.prior, .int .u64 f.serial] w
      fun e w' => e = .returned (.bool true) ∧ Below w.heap.size w w' := by
  cases x
  · exact Lease.law1_some f o n D a len cap ks w I
  · exact Lease.law1_nil f o n D a len cap ks w I

set_option maxRecDepth 100000 in
theorem lifted (os : Os) (started : os.Started) (H : Type) (enc : TypeId × Value → H) :
    ReturnsInHanded {} Trym.checked os 3 .any (Rows.fnCopyLeaseIsAnEqualCopyThatSharesNothingSpec.pre6 enc Trym.prog Trym.f3 Rows.fnCopyLeaseIsAnEqualCopyThatSharesNothingRow.domain false) (Rows.fnCopyLeaseIsAnEqualCopyThatSharesNothingSpec.post enc Trym.prog Trym.f3 false true false false) := by
  refine returnsInHanded_of_change_sized (C := Trym.checked) own started (by kernel_rfl) Trym.func3
    (ChangeSpec.witness6 (enc := enc) (C := Trym.checked) false ⟨#[], #[.bool false, .string ByteArray.empty, .int .u64 0, .int .i64 0, .map none, .slice none 0 0, .string ByteArray.empty, .string ByteArray.empty, .int .u64 0, .string ByteArray.empty, .int .u64 0, .int .u64 0], []⟩ 8 (by kernel_rfl) (by kernel_rfl) (by kernel_rfl) (by kernel_rfl)) ?_
  intro W base args ds gs before hval0 hW hcnd hsz0 _
  have hsz : (DataW.weightsEach Trym.prog (Trym.f3.params.toList ++ Rows.fnCopyLeaseIsAnEqualCopyThatSharesNothingSpec.plain.varTypes Trym.prog) (ds ++ gs)).all (· ≤ reachBytes) = true := hsz0
  have hval : ∀ (j : Nat) t v, Trym.f3.params[j]? = some t → args[j]? = some v → Value.okWide Trym.prog W .any base t v := hval0
  have hW' := hW
  obtain ⟨p, q, hA0, hV, rfl, hfz, hnd⟩ := hW
  have hA : DataW.TrodAll enc Trym.prog W 0 (fun _ => true) true Trym.f3.params.toList args.toList ds p := hA0
  rw [Trym.params3] at hA hval hsz
  obtain ⟨v0, vs0, d0, ds0, p0, q0, hargs, rfl, rfl, h0, r0⟩ := trodAll_cons hA
  obtain ⟨v1, vs1, d1, ds1, p1, q1, rfl, rfl, rfl, h1, r1⟩ := trodAll_cons r0
  obtain ⟨v2, vs2, d2, ds2, p2, q2, rfl, rfl, rfl, h2, r2⟩ := trodAll_cons r1
  obtain ⟨v3, vs3, d3, ds3, p3, q3, rfl, rfl, rfl, h3, r3⟩ := trodAll_cons r2
  obtain ⟨v4, vs4, d4, ds4, p4, q4, rfl, rfl, rfl, h4, r4⟩ := trodAll_cons r3
  obtain ⟨v5, vs5, d5, ds5, p5, q5, rfl, rfl, rfl, h5, r5⟩ := trodAll_cons r4
  obtain ⟨v6, vs6, d6, ds6, p6, q6, rfl, rfl, rfl, h6, r6⟩ := trodAll_cons r5
  obtain ⟨v7, vs7, d7, ds7, p7, q7, rfl, rfl, rfl, h7, r7⟩ := trodAll_cons r6
  obtain ⟨v8, vs8, d8, ds8, p8, q8, rfl, rfl, rfl, h8, r8⟩ := trodAll_cons r7
  obtain ⟨v9, vs9, d9, ds9, p9, q9, rfl, rfl, rfl, h9, r9⟩ := trodAll_cons r8
  obtain ⟨v10, vs10, d10, ds10, p10, q10, rfl, rfl, rfl, h10, r10⟩ := trodAll_cons r9
  obtain ⟨v11, vs11, d11, ds11, p11, q11, rfl, rfl, rfl, h11, r11⟩ := trodAll_cons r10
  obtain ⟨rfl, rfl, rfl⟩ := trodAll_nil r11
  obtain rfl : args = #[v0, v1, v2, v3, v4, v5, v6, v7, v8, v9, v10, v11] := by cases args; simp_all
  obtain ⟨rfl, rfl⟩ := trodVars_none hV
  obtain ⟨a0, rfl, rfl, rfl⟩ := open_bool Trym.underlying4 (hval 0 4 v0 rfl rfl) h0
  obtain ⟨a1, rfl, rfl, rfl, w1⟩ := open_string Trym.underlying9 (hval 1 9 v1 rfl rfl) h1
  obtain ⟨a2, rfl, rfl, rfl, w2⟩ := open_int Trym.underlying22 (hval 2 22 v2 rfl rfl) h2
  obtain ⟨a3, rfl, rfl, rfl, w3⟩ := open_int Trym.underlying2 (hval 3 2 v3 rfl rfl) h3
  obtain ⟨a4, rfl⟩ := okWide_map Trym.underlying23 (hval 4 23 v4 rfl rfl)
  have lt4 : ∀ x ∈ p4, x.block < W.heap.size := by obtain ⟨m, hm⟩ := h4; exact DataW.trod_lt m _ _ _ hm
  obtain ⟨a5, len5, cap5, rfl⟩ := okWide_slice Trym.underlying24 (hval 5 24 v5 rfl rfl)
  have lt5 : ∀ x ∈ p5, x.block < W.heap.size := by obtain ⟨m, hm⟩ := h5; exact DataW.trod_lt m _ _ _ hm
  obtain ⟨a6, rfl, rfl, rfl, w6⟩ := open_string Trym.underlying9 (hval 6 9 v6 rfl rfl) h6
  obtain ⟨a7, rfl, rfl, rfl, w7⟩ := open_string Trym.underlying9 (hval 7 9 v7 rfl rfl) h7
  obtain ⟨a8, rfl, rfl, rfl, w8⟩ := open_int Trym.underlying22 (hval 8 22 v8 rfl rfl) h8
  obtain ⟨a9, rfl, rfl, rfl, w9⟩ := open_string Trym.underlying9 (hval 9 9 v9 rfl rfl) h9
  obtain ⟨a10, rfl, rfl, rfl, w10⟩ := open_int Trym.underlying22 (hval 10 22 v10 rfl rfl) h10
  obtain ⟨a11, rfl, rfl, rfl, w11⟩ := open_int Trym.underlying22 (hval 11 22 v11 rfl rfl) h11
  clear hA0 hval0 hsz0
  obtain ⟨n4, m4⟩ := Lease.map_in h4
  have ww4 := Lease.weight_at hsz (j := 4) (t := 23) (d := d4) rfl rfl
  obtain ⟨ks, m5⟩ := Lease.keys_in h5 (Lease.weight_at hsz (j := 5) (t := 24) (d := d5) rfl rfl)
  have s1 := Lease.string_at hsz (j := 1) (t := 9) (s := a1) rfl rfl
  have s6 := Lease.string_at hsz (j := 6) (t := 9) (s := a6) rfl rfl
  have s7 := Lease.string_at hsz (j := 7) (t := 9) (s := a7) rfl rfl
  have s9 := Lease.string_at hsz (j := 9) (t := 9) (s := a9) rfl rfl
  refine (walk a0 ⟨a1, a2, a3, a6, a7, a8, a9, a10, a11⟩ a4 n4 d4 a5 len5 cap5 ks W ⟨s1, s6, s7, s9, m4, Lease.size_in ww4, fun i _ => Lease.val_in ww4 _, m5⟩).mono fun e W' ⟨he, bel⟩ => ?_
  subst he
  exact ⟨_, rfl, _, _, _, [], _, [], hW', trodAll_mk1 (shut_bool Trym.underlying4 _), (trodAll_cons_mk (shut_bool Trym.underlying4 a0) (trodAll_cons_mk (shut_string Trym.underlying9 w1) (trodAll_cons_mk (shut_int Trym.underlying22 w2) (trodAll_cons_mk (shut_int Trym.underlying2 w3) (trodAll_cons_mk (Below.trod laidOut (by kernel_rfl) (of_decide_eq_true (by kernel_rfl)) h4 bel lt4) (trodAll_cons_mk (Below.trod laidOut (by kernel_rfl) (of_decide_eq_true (by kernel_rfl)) h5 bel lt5) (trodAll_cons_mk (shut_string Trym.underlying9 w6) (trodAll_cons_mk (shut_string Trym.underlying9 w7) (trodAll_cons_mk (shut_int Trym.underlying22 w8) (trodAll_cons_mk (shut_string Trym.underlying9 w9) (trodAll_cons_mk (shut_int Trym.underlying22 w10) (trodAll_cons_mk (shut_int Trym.underlying22 w11) trodAll_mk0)))))))))))), rfl, bel.frame _, fun h => by cases h⟩

theorem over : Rows.fnCopyLeaseIsAnEqualCopyThatSharesNothingRow.holds Trym.pinned (OpenSpec.ofChange Rows.fnCopyLeaseIsAnEqualCopyThatSharesNothingSpec) :=
  OpenClaim.holds_of_wide 3 Trym.f3 rfl rfl rfl rfl rfl rfl rfl ⟨rfl, rfl, rfl, rfl, rfl⟩ rfl rfl rfl rfl rfl (by kernel_rfl) Trym.func3 (by kernel_rfl)
    (of_decide_eq_true (by kernel_rfl)) (by unfold Func.isWrapper; first | (rw [if_pos (by decide +kernel)]; kernel_rfl) | (rw [if_neg (by decide +kernel)]; exact ⟨rfl, rfl⟩))
    (fun os started H enc _ => lifted os started H enc)

/-- THE STATEMENT. -/
theorem proved : Rows.FnCopyLeaseIsAnEqualCopyThatSharesNothingSaid := over
end Go.Proofs.Qxb6619094aMods.fnCopyLeaseIsAnEqualCopyThatSharesNothing
