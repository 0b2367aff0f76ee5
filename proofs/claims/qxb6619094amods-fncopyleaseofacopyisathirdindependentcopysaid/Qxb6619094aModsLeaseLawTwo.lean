/-
  Seat b6619094aM: the second law's walk (function 4).
-/
import Derived.Test.Qxb6619094aModsLeaseLaw
namespace Go.Proofs.Qxb6619094aMods.Lease
open Go.RowKit Go.Maps Go.WideMaps
set_option linter.unusedVariables false

set_option maxRecDepth 100000 in
set_option maxHeartbeats 4000000 in
theorem law2_nil {H : Type} (f : Fields) (o : Option Nat) (n : Nat) (D : DataW H) (a : Option Addr) (len cap : Nat) (ks : List ByteArray) (w : World) (I : Input w f o n D a len ks) :
    Calls Trym.prog 4 #[.bool true, .string f.fid, .int .u64 f.token, .int .i64 f.ttl, .map o, .slice a len cap, .string f.nonce, .string f.group, .int .u64 f.ptoken, .string f.heir, .int .u64 f.prior, .int .u64 f.serial] w
      fun e w' => e = .returned (.bool true) ∧ Below w.heap.size w w' := by
  go_enter Trym.func4, Trym.ntmps4
  go_wp2_with fail
  refine (sized_any _ _ _ _ o n D a len cap ks w I.hid I.hnonce I.hgroup I.hheir I.hmap I.hsize I.hvals I.hkeys).mono ?_
  rintro e w1 ⟨b1, rfl, hb1, hp1⟩
  cases b1
  · go_wp2
    go_ret
    exact ⟨rfl, hb1⟩
  clear hp1
  go_wp2_with fail
  refine (keys_any o n D a len cap ks w1 (I.map hb1) I.hsize (I.keys hb1)).mono ?_
  rintro e w2 ⟨b2, rfl, hb2, hp2⟩
  have hb12 : Below w.heap.size w w2 := hb1.trans (hb2.mono hb1.size)
  clear hp2
  cases b2
  · go_wp2
    go_ret
    exact ⟨rfl, hb12⟩
  go_wp2_with fail
  refine (zz_null w2).mono ?_
  rintro e w3 ⟨rfl, hw3⟩
  obtain rfl := hw3.symm
  go_wp2_with fail
  refine (zz_null w2).mono ?_
  rintro e w4 ⟨rfl, hw4⟩
  obtain rfl := hw4.symm
  go_wp2
  go_ret
  exact ⟨rfl, hb12⟩

set_option maxRecDepth 100000 in
set_option maxHeartbeats 4000000 in
theorem law2_some {H : Type} (f : Fields) (o : Option Nat) (n : Nat) (D : DataW H) (a : Option Addr) (len cap : Nat) (ks : List ByteArray) (w : World) (I : Input w f o n D a len ks) :
    Calls Trym.prog 4 #[.bool false, .string f.fid, .int .u64 f.token, .int .i64 f.ttl, .map o, .slice a len cap, .string f.nonce, .string f.group, .int .u64 f.ptoken, .string f.heir, .int .u64 f.prior, .int .u64 f.serial] w
      fun e w' => e = .returned (.bool true) ∧ Below w.heap.size w w' := by
  go_enter Trym.func4, Trym.ntmps4
  go_wp2_with fail
  refine (sized_any _ _ _ _ o n D a len cap ks w I.hid I.hnonce I.hgroup I.hheir I.hmap I.hsize I.hvals I.hkeys).mono ?_
  rintro e w1 ⟨b1, rfl, hb1, hp1⟩
  cases b1
  · go_wp2
    go_ret
    exact ⟨rfl, hb1⟩
  have S := hp1 rfl
  clear hp1
  go_wp2_with fail
  refine (keys_any o n D a len cap ks w1 (I.map hb1) I.hsize (I.keys hb1)).mono ?_
  rintro e w2 ⟨b2, rfl, hb2, hp2⟩
  have hb12 : Below w.heap.size w w2 := hb1.trans (hb2.mono hb1.size)
  cases b2
  · go_wp2
    go_ret
    exact ⟨rfl, hb12⟩
  have L := hp2 rfl
  clear hp2 hb1 hb2
  go_wp2_with fail
  refine (build_any f o n D a len cap ks w2 (I.map hb12) (I.keys hb12) S.hlen S.hvals L).mono ?_
  intro e w3 hM3
  obtain ⟨p, mp, np, Gp, rfl, hpn, hlp, hmn, hmb, hnp, hGp, hfill, hb3⟩ := hM3.parts
  have hz2 := hb12.size
  have hb13 : Below w.heap.size w w3 := hb12.trans (hb3.mono hz2)
  have hp3 := hlp.lt
  have hmp3 : ∀ b, mp = some b → b < w3.heap.size := fun b e => by rw [e] at hGp; exact mapIs_lt hGp
  have HN1 : Hid (mp.isNone = o.isNone) := hmn
  clear hM3 hmn
  go_wp2_with fail
  refine (zz_any p mp np Gp f w3 hlp hGp hnp).mono ?_
  intro e w4 hM4
  obtain ⟨c, mc, nc, Gc, rfl, hcn, hlc, hcnil, hcb, hnc, hGc, hGeq, hb4⟩ := hM4.parts
  have hz3 := hb13.size
  have hb14 : Below w.heap.size w w4 := hb13.trans (hb4.mono hz3)
  have hlp4 : IsLease w4 p f mp := hlp.belowB hb4 hp3
  have hGp4 : mapIs w4 mp np Gp := mapIs_below hGp hb4 hmp3
  have hGe := hGeq.symm
  subst hGe
  have HN2 : Hid (mc.isNone = mp.isNone) := hcnil
  have hcp : c ≠ p := by omega
  have hc4 := hlc.lt
  have hmc4 : ∀ b, mc = some b → b < w4.heap.size := fun b e => by rw [e] at hGc; exact mapIs_lt hGc
  have hpe := ptr_ne hlc hlp4 hcp
  have hz34 := hb4.size
  clear hM4 hcnil hlp hGp hb3 hb12 hb13 hb4
  go_wp2_with fail
  refine (zz_any c mc nc Gp f w4 hlc hGc hnc).mono ?_
  intro e w5 hM5
  obtain ⟨d, md, nd, Gd, rfl, hdn, hld, hdnil, hdb, hnd, hGd, hGeq, hb5⟩ := hM5.parts
  have hz4 := hb14.size
  have hb15 : Below w.heap.size w w5 := hb14.trans (hb5.mono hz4)
  have hlp5 : IsLease w5 p f mp := hlp4.belowB hb5 (by omega)
  have hGp5 : mapIs w5 mp np Gp := mapIs_below hGp4 hb5 (fun b e => by have := hmp3 b e; omega)
  have hlc5 : IsLease w5 c f mc := hlc.belowB hb5 hc4
  have hGc5 : mapIs w5 mc nc Gp := mapIs_below hGc hb5 hmc4
  have hGe := hGeq.symm
  subst hGe
  have HN3 : Hid (md.isNone = mc.isNone) := hdnil
  have hdc : d ≠ c := by omega
  have hdp : d ≠ p := by omega
  have hpe1 := ptr_ne hld hlc5 hdc
  have hpe2 := ptr_ne hld hlp5 hdp
  clear hM5 hdnil hlp4 hGp4 hlc hGc hb14 hb5 hpe
  have hfd : w5.cell? ⟨d, 3, none⟩ = some (.map md) := hld.cell 3
  go_wp2_with fail
  refine (fields_any w5 d f md hld).mono ?_
  rintro e w6 ⟨rfl, hw6⟩
  obtain rfl := hw6.symm
  go_wp2_with fail
  refine (meta_any md o nd n Gp D a len cap ks w5 hGd (I.map hb15) (I.keys hb15) hfill (HN3.out.trans (HN2.out.trans HN1.out))).mono ?_
  rintro e w7 ⟨rfl, hw7⟩
  obtain rfl := hw7.symm
  clear hpe1 hpe2 hfd
  go_wp2_with fail
  refine (spoil_any w c mc nc Gp f a len cap ks w5 hb15 I.hkeys (by omega) (fun b e => Nat.le_trans hz3 (hcb b e)) hlc5 hGc5 ⟨S.hid, S.hnonce, S.hpg, S.hheir⟩ hnc S.hlen S.hkeys (fun i hi => by rw [hfill.hval i hi]; exact S.hvals i hi)).mono ?_
  rintro e w8 ⟨rfl, ht⟩
  have hlp8 : IsLease w8 p f mp := ht.lease hlp5 (fun e => hcp e.symm) (fun e => by have := hcb p e.symm; omega)
  have hGp8 : mapIs w8 mp np Gp := ht.map hGp5 (fun b e => ⟨by have := hmp3 b e; omega, fun e' => by have := hcb b e'.symm; have := hmp3 b e; omega⟩)
  have hld8 : IsLease w8 d f md := ht.lease hld hdc (fun e => by have := hmc4 d e.symm; omega)
  have hGd8 : mapIs w8 md nd Gp := ht.map hGd (fun b e => ⟨by have := hdb b e; omega, fun e' => by have := hdb b e; have := hmc4 b e'.symm; omega⟩)
  have hb18 : Below w.heap.size w w8 := hb15.trans (ht.below (by omega) (fun b e => Nat.le_trans hz3 (hcb b e)) hb15.size)
  have hfp : w8.cell? ⟨p, 3, none⟩ = some (.map mp) := hlp8.cell 3
  have hfd : w8.cell? ⟨d, 3, none⟩ = some (.map md) := hld8.cell 3
  clear hlp5 hGp5 hlc5 hGc5 hld hGd hb15 ht
  go_wp2_with fail
  refine (fields_any w8 d f md hld8).mono ?_
  rintro e w9 ⟨rfl, hw9⟩
  obtain rfl := hw9.symm
  go_wp2_with fail
  refine (meta_any md o nd n Gp D a len cap ks w8 hGd8 (I.map hb18) (I.keys hb18) hfill (HN3.out.trans (HN2.out.trans HN1.out))).mono ?_
  rintro e w10 ⟨rfl, hw10⟩
  obtain rfl := hw10.symm
  go_wp2_with fail
  refine (fields_any w8 p f mp hlp8).mono ?_
  rintro e w11 ⟨rfl, hw11⟩
  obtain rfl := hw11.symm
  go_wp2_with fail
  refine (meta_any mp o np n Gp D a len cap ks w8 hGp8 (I.map hb18) (I.keys hb18) hfill HN1.out).mono ?_
  rintro e w12 ⟨rfl, hw12⟩
  obtain rfl := hw12.symm
  clear hfp hfd
  go_wp2_with fail
  refine (spoil_any w d md nd Gp f a len cap ks w8 hb18 I.hkeys (by omega) (fun b e => Nat.le_trans hz4 (hdb b e)) hld8 hGd8 ⟨S.hid, S.hnonce, S.hpg, S.hheir⟩ hnd S.hlen S.hkeys (fun i hi => by rw [hfill.hval i hi]; exact S.hvals i hi)).mono ?_
  rintro e w13 ⟨rfl, ht⟩
  have hlp13 : IsLease w13 p f mp := ht.lease hlp8 (fun e => hdp e.symm) (fun e => by have := hdb p e.symm; omega)
  have hGp13 : mapIs w13 mp np Gp := ht.map hGp8 (fun b e => ⟨by have := hmp3 b e; omega, fun e' => by have := hdb b e'.symm; have := hmp3 b e; omega⟩)
  have hb113 : Below w.heap.size w w13 := hb18.trans (ht.below (by omega) (fun b e => Nat.le_trans hz4 (hdb b e)) hb18.size)
  have hfp : w13.cell? ⟨p, 3, none⟩ = some (.map mp) := hlp13.cell 3
  clear hlp8 hGp8 hld8 hGd8 hb18 ht
  go_wp2_with fail
  refine (fields_any w13 p f mp hlp13).mono ?_
  rintro e w14 ⟨rfl, hw14⟩
  obtain rfl := hw14.symm
  go_wp2_with fail
  refine (meta_any mp o np n Gp D a len cap ks w13 hGp13 (I.map hb113) (I.keys hb113) hfill HN1.out).mono ?_
  rintro e w15 ⟨rfl, hw15⟩
  obtain rfl := hw15.symm
  go_wp2
  go_ret
  exact ⟨rfl, hb113⟩

end Go.Proofs.Qxb6619094aMods.Lease
