/-
  Seat b6619094aM: the contracts in one form each, and the first law's walk (function 3).
-/
import Derived.Test.Qxb6619094aModsLeaseSized
import Derived.Test.Qxb6619094aModsLeaseCopy
import Derived.Test.Qxb6619094aModsLeaseSpoil
import Derived.LaidEql
namespace Go.Proofs.Qxb6619094aMods.Lease
open Go.RowKit Go.Maps Go.WideMaps
set_option linter.unusedVariables false

theorem build_any {H : Type} (f : Fields) (o : Option Nat) (n : Nat) (D : DataW H) (a : Option Addr) (len cap : Nat) (ks : List ByteArray) (w : World)
    (hm : mapIs w o n D) (hk : IsKeys w a len ks) (hl4 : len ≤ 4096) (hv : ∀ i, i < len → (val D (ks.getD i ByteArray.empty)).size ≤ 1048576) (L : Listed len ks D) :
    Calls Trym.prog 8 #[.string f.fid, .int .u64 f.token, .int .i64 f.ttl, .map o, .slice a len cap, .string f.nonce, .string f.group, .int .u64 f.ptoken, .string f.heir, .int .u64 f.prior, .int .u64 f.serial] w
      fun e w' => Made w w' e f o.isNone (fun G : DataW H => Filled G D len ks) := by
  cases o with
  | none =>
    have hD : D = .nil := hm
    subst hD
    have h0 : len = 0 := L.hlen
    subst h0
    exact build_nil f a cap ks w
  | some b => exact build_some f b n D a len cap ks w hm hk hl4 hv L.hup

theorem spoil_any {H : Type} (w0 : World) (c : Nat) (m : Option Nat) (n : Nat) (G : DataW H) (f : Fields) (a : Option Addr) (len cap : Nat) (ks : List ByteArray) (w : World) (hbel : Below w0.heap.size w0 w) (hk : IsKeys w0 a len ks)
    (hcn : w0.heap.size ≤ c) (hbn : ∀ b, m = some b → w0.heap.size ≤ b) (h : IsLease w c f m) (hm : mapIs w m n G) (hs : Short f) (hn : n ≤ 4096) (hl4 : len ≤ 4096)
    (hz : ∀ i, i < len → (ks.getD i ByteArray.empty).size ≤ 1048576) (hv : ∀ i, i < len → (val G (ks.getD i ByteArray.empty)).size ≤ 1048576) :
    Calls Trym.prog 11 #[.pointer (some ⟨c, 0, none⟩), .slice a len cap] w fun e w' => e = .returned (.tuple #[]) ∧ Turned w w' c m := by
  cases m with
  | none => exact spoil_nil c f a len cap w h hs
  | some b => exact spoil_some w0 c b n G f a len cap ks w hbel hk hcn (hbn b rfl) h hm hs hn hl4 hz hv

theorem Turned.below {w w' : World} {c : Nat} {m : Option Nat} {B : Nat} (h : Turned w w' c m) (hc : B ≤ c) (hm : ∀ b, m = some b → B ≤ b) (hB : B ≤ w.heap.size) : Below B w w' :=
  ⟨h.os, h.tape, h.output, h.size, fun k hk => h.block k (by omega) (by omega) (fun e => by have := hm k e.symm; omega)⟩

/-- A lease that is not the one turned stands. -/
theorem Turned.lease {w w' : World} {c p : Nat} {m mp : Option Nat} {f : Fields} (h : Turned w w' c m) (hl : IsLease w p f mp) (hne : p ≠ c) (hnm : some p ≠ m) : IsLease w' p f mp :=
  hl.block (h.block p hl.lt hne hnm)

/-- A map that is not the one turned stands. -/
theorem Turned.map {H : Type} {w w' : World} {c : Nat} {m mp : Option Nat} {n : Nat} {G : DataW H} (h : Turned w w' c m) (hG : mapIs w mp n G) (hne : ∀ b, mp = some b → b ≠ c ∧ some b ≠ m) : mapIs w' mp n G :=
  mapIs_block hG fun b e => h.block b (by subst e; exact mapIs_lt hG) (hne b e).1 (hne b e).2

theorem Below.up {B : Nat} {w w' : World} (h : Below w.heap.size w w') (hB : B ≤ w.heap.size) : Below B w w' := h.mono hB

theorem IsLease.belowB {B : Nat} {w w' : World} {p : Nat} {f : Fields} {m : Option Nat} (h : IsLease w p f m) (hb : Below B w w') (hp : p < B) : IsLease w' p f m := h.block (hb.block p hp)

theorem Made.parts {H : Type} {w w' : World} {e : Ending} {f : Fields} {isnil : Bool} {Q : DataW H → Prop} (h : Made w w' e f isnil Q) :
    ∃ (p : Nat) (m : Option Nat) (n : Nat) (G : DataW H), e = .returned (.pointer (some ⟨p, 0, none⟩)) ∧ w.heap.size ≤ p ∧ IsLease w' p f m ∧ m.isNone = isnil ∧ (∀ b, m = some b → w.heap.size ≤ b) ∧ n ≤ 4096 ∧ mapIs w' m n G ∧ Q G ∧ Below w.heap.size w w' := h

theorem info35 : (Trym.prog.info? 35).map (fun i => i.size) = some 10 := by kernel_rfl

/-- Two leases in two blocks are not at one address. -/
theorem ptr_ne {w : World} {c p : Nat} {f f' : Fields} {m m' : Option Nat} (hc : IsLease w c f m) (hp : IsLease w p f' m') (hne : c ≠ p) :
    (binOp .eql 27 (.pointer (some ⟨c, 0, none⟩)) (.pointer (some ⟨p, 0, none⟩))).run Trym.prog w = .ok (.bool false) w := by
  obtain ⟨i, hi, hs⟩ : ∃ i, Trym.prog.info? 35 = some i ∧ i.size = 10 := by
    have h := info35
    cases hi : Trym.prog.info? 35 with
    | none => rw [hi] at h; cases h
    | some i => rw [hi] at h; exact ⟨i, rfl, by simpa using h⟩
  have e : ∀ d : Nat, (Op.equalIn (d + 1) 27 (.pointer (some ⟨c, 0, none⟩)) (.pointer (some ⟨p, 0, none⟩))).run Trym.prog w = .ok false w := fun d => by
    simp [Op.equalIn, run_underlying Trym.underlying27, typeInfo, sizeOf, hi, hs, run_sameAddr_other w (a := ⟨c, 0, none⟩) (b := ⟨p, 0, none⟩) (fun e => hne (congrArg Addr.block e)) hc hp]
  simp only [binOp]
  simp [Op.equal, Op.maxDepth, e 9999]

/-- What the two laws are told of their input. -/
structure Input {H : Type} (w : World) (f : Fields) (o : Option Nat) (n : Nat) (D : DataW H) (a : Option Addr) (len : Nat) (ks : List ByteArray) : Prop where
  hid : f.fid.size ≤ 140737488355328
  hnonce : f.nonce.size ≤ 140737488355328
  hgroup : f.group.size ≤ 140737488355328
  hheir : f.heir.size ≤ 140737488355328
  hmap : mapIs w o n D
  hsize : Maps.size D ≤ 140737488355328
  hvals : ∀ i, i < len → (val D (ks.getD i ByteArray.empty)).size ≤ 140737488355328
  hkeys : IsKeys w a len ks

theorem Input.lt {H : Type} {w : World} {f : Fields} {o : Option Nat} {n : Nat} {D : DataW H} {a : Option Addr} {len : Nat} {ks : List ByteArray} (I : Input w f o n D a len ks) (b : Nat) (e : o = some b) : b < w.heap.size := by
  have h := I.hmap
  rw [e] at h
  exact mapIs_lt h

theorem Input.map {H : Type} {w w' : World} {f : Fields} {o : Option Nat} {n : Nat} {D : DataW H} {a : Option Addr} {len : Nat} {ks : List ByteArray} (I : Input w f o n D a len ks) (h : Below w.heap.size w w') : mapIs w' o n D :=
  mapIs_below I.hmap h I.lt
theorem Input.keys {H : Type} {w w' : World} {f : Fields} {o : Option Nat} {n : Nat} {D : DataW H} {a : Option Addr} {len : Nat} {ks : List ByteArray} (I : Input w f o n D a len ks) (h : Below w.heap.size w w') : IsKeys w' a len ks :=
  I.hkeys.below h (Nat.le_refl _)

set_option maxHeartbeats 4000000 in
theorem law1_nil {H : Type} (f : Fields) (o : Option Nat) (n : Nat) (D : DataW H) (a : Option Addr) (len cap : Nat) (ks : List ByteArray) (w : World) (I : Input w f o n D a len ks) :
    Calls Trym.prog 3 #[.bool true, .string f.fid, .int .u64 f.token, .int .i64 f.ttl, .map o, .slice a len cap, .string f.nonce, .string f.group, .int .u64 f.ptoken, .string f.heir, .int .u64 f.prior, .int .u64 f.serial] w
      fun e w' => e = .returned (.bool true) ∧ Below w.heap.size w w' := by
  go_enter Trym.func3, Trym.ntmps3
  go_wp2_with fail
  refine (sized_any _ _ _ _ o n D a len cap ks w I.hid I.hnonce I.hgroup I.hheir I.hmap I.hsize I.hvals I.hkeys).mono ?_
  rintro e w1 ⟨b1, rfl, hb1, hp1⟩
  cases b1
  · go_wp2
    go_ret
    exact ⟨rfl, hb1⟩
  clear hp1
  go_wp2_with fail
  refine (keys_any o n D a len cap ks w1 (I.map hb1) I.hsize (I.keys hb1)).mono ?_
  rintro e w2 ⟨b2, rfl, hb2, hp2⟩
  have hb12 : Below w.heap.size w w2 := hb1.trans (hb2.mono hb1.size)
  clear hp2
  cases b2
  · go_wp2
    go_ret
    exact ⟨rfl, hb12⟩
  go_wp2_with fail
  refine (zz_null w2).mono ?_
  rintro e w3 ⟨rfl, hw3⟩
  subst hw3
  go_wp2
  go_ret
  exact ⟨rfl, hb12⟩

set_option maxHeartbeats 4000000 in
theorem law1_some {H : Type} (f : Fields) (o : Option Nat) (n : Nat) (D : DataW H) (a : Option Addr) (len cap : Nat) (ks : List ByteArray) (w : World) (I : Input w f o n D a len ks) :
    Calls Trym.prog 3 #[.bool false, .string f.fid, .int .u64 f.token, .int .i64 f.ttl, .map o, .slice a len cap, .string f.nonce, .string f.group, .int .u64 f.ptoken, .string f.heir, .int .u64 f.prior, .int .u64 f.serial] w
      fun e w' => e = .returned (.bool true) ∧ Below w.heap.size w w' := by
  go_enter Trym.func3, Trym.ntmps3
  go_wp2_with fail
  refine (sized_any _ _ _ _ o n D a len cap ks w I.hid I.hnonce I.hgroup I.hheir I.hmap I.hsize I.hvals I.hkeys).mono ?_
  rintro e w1 ⟨b1, rfl, hb1, hp1⟩
  cases b1
  · go_wp2
    go_ret
    exact ⟨rfl, hb1⟩
  have S := hp1 rfl
  clear hp1
  go_wp2_with fail
  refine (keys_any o n D a len cap ks w1 (I.map hb1) I.hsize (I.keys hb1)).mono ?_
  rintro e w2 ⟨b2, rfl, hb2, hp2⟩
  have hb12 : Below w.heap.size w w2 := hb1.trans (hb2.mono hb1.size)
  cases b2
  · go_wp2
    go_ret
    exact ⟨rfl, hb12⟩
  have L := hp2 rfl
  clear hp2 hb1 hb2
  go_wp2_with fail
  refine (build_any f o n D a len cap ks w2 (I.map hb12) (I.keys hb12) S.hlen S.hvals L).mono ?_
  intro e w3 hM3
  obtain ⟨p, mp, np, Gp, rfl, hpn, hlp, hmn, hmb, hnp, hGp, hfill, hb3⟩ := hM3.parts
  have hz2 := hb12.size
  have hb13 : Below w.heap.size w w3 := hb12.trans (hb3.mono hz2)
  have hp3 := hlp.lt
  have hmp3 : ∀ b, mp = some b → b < w3.heap.size := fun b e => by rw [e] at hGp; exact mapIs_lt hGp
  clear hM3
  go_wp2_with fail
  refine (zz_any p mp np Gp f w3 hlp hGp hnp).mono ?_
  intro e w4 hM4
  obtain ⟨c, mc, nc, Gc, rfl, hcn, hlc, hcnil, hcb, hnc, hGc, hGeq, hb4⟩ := hM4.parts
  have hz3 := hb13.size
  have hb14 : Below w.heap.size w w4 := hb13.trans (hb4.mono hz3)
  have hlp4 : IsLease w4 p f mp := hlp.belowB hb4 hp3
  have hGp4 : mapIs w4 mp np Gp := mapIs_below hGp hb4 hmp3
  clear hM4
  have hcp : c ≠ p := by omega
  have hGe := hGeq.symm
  subst hGe
  have HN1 : Hid (mp.isNone = o.isNone) := hmn
  have HN2 : Hid (mc.isNone = mp.isNone) := hcnil
  clear hmn hcnil hlp hGp hb3 hb12 hb13
  have hpe := ptr_ne hlc hlp4 hcp
  have hfc : w4.cell? ⟨c, 3, none⟩ = some (.map mc) := hlc.cell 3
  go_wp2_with fail
  refine (fields_any w4 c f mc hlc).mono ?_
  rintro e w5 ⟨rfl, hw5⟩
  obtain rfl := hw5.symm
  go_wp2_with fail
  refine (meta_any mc o nc n Gp D a len cap ks w4 hGc (I.map hb14) (I.keys hb14) hfill (HN2.out.trans HN1.out)).mono ?_
  rintro e w6 ⟨rfl, hw6⟩
  obtain rfl := hw6.symm
  clear hpe hfc
  go_wp2_with fail
  refine (spoil_any w c mc nc Gp f a len cap ks w4 hb14 I.hkeys (by omega) (fun b e => Nat.le_trans hz3 (hcb b e)) hlc hGc ⟨S.hid, S.hnonce, S.hpg, S.hheir⟩ hnc S.hlen S.hkeys (fun i hi => by rw [hfill.hval i hi]; exact S.hvals i hi)).mono ?_
  rintro e w7 ⟨rfl, ht⟩
  have hpm : some p ≠ mc := fun e => by have := hcb p e.symm; omega
  have hlp7 : IsLease w7 p f mp := ht.lease hlp4 (fun e => hcp e.symm) hpm
  have hGp7 : mapIs w7 mp np Gp := ht.map hGp4 (fun b e => ⟨by have := hmp3 b e; omega, fun e' => by have := hcb b e'.symm; have := hmp3 b e; omega⟩)
  have hb17 : Below w.heap.size w w7 := hb14.trans (ht.below (by omega) (fun b e => Nat.le_trans hz3 (hcb b e)) hb14.size)
  have hfp : w7.cell? ⟨p, 3, none⟩ = some (.map mp) := hlp7.cell 3
  go_wp2_with fail
  refine (fields_any w7 p f mp hlp7).mono ?_
  rintro e w8 ⟨rfl, hw8⟩
  obtain rfl := hw8.symm
  go_wp2_with fail
  refine (meta_any mp o np n Gp D a len cap ks w7 hGp7 (I.map hb17) (I.keys hb17) hfill HN1.out).mono ?_
  rintro e w9 ⟨rfl, hw9⟩
  obtain rfl := hw9.symm
  go_wp2
  go_ret
  exact ⟨rfl, hb17⟩

end Go.Proofs.Qxb6619094aMods.Lease
