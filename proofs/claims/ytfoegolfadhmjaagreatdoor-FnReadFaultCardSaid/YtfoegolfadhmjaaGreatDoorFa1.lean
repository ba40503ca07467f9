/- laws.FnReadFault. -/
import Derived.Test.YtfoegolfadhmjaaGreatDoorU09
import Derived.Test.YtfoegolfadhmjaaGreatDoorU10
import Derived.Test.YtfoegolfadhmjaaGreatDoorU13
set_option linter.unusedVariables false
set_option linter.unusedSimpArgs false
set_option maxRecDepth 100000
set_option maxHeartbeats 16000000
set_option linter.all false
namespace Go.Proofs.YtfoegolfadhmjaaGreatDoor
open Go.RowKit Go.WideShapes Go.Sort
theorem law4_is(t0 t1:List UInt8)(l:List V)(forms:Nat)(hfo:forms<18446744073709551616)(r:List UInt8)(w:World)(VC:Vld w)(s vb:Value)(hs:LM w l s)(hb:SlC w vb r):
 Calls Tryz.prog 4 #[.agg #[.string ⟨t0.toArray⟩,.string ⟨t1.toArray⟩,s],.int .u64 (forms:Int),vb] w fun e w'=>e=.returned (.bool true)∧New w w':=by
 obtain⟨A,c,rfl,-,-⟩:=hs.shape
 obtain⟨Ab,cb,rfl,hb1,hb2,-⟩:=id hb
 obtain⟨n,hn⟩:∃n,n=l.length:=⟨_,rfl⟩
 rw [←hn]at hs ⊢
 have M:=Lib.hid hn
 have HS:=Lib.hid hs
 have HB:=Lib.hid hb
 have HV:=Lib.hid VC
 have kA:=(Keep.refl (fun _=>True) w).alloc (.cells #[.string ⟨t0.toArray⟩,.string ⟨t1.toArray⟩,.slice A n c] 45)
 have hbx:=Lib.hid (blk_new w (.cells #[.string ⟨t0.toArray⟩,.string ⟨t1.toArray⟩,.slice A n c] 45))
 have hz:=Lib.hid (zzFits4_is t0 t1 A n c (w.alloc (.cells #[.string ⟨t0.toArray⟩,.string ⟨t1.toArray⟩,.slice A n c] 45)))
 clear hs hn VC hb
 go_enter Tryz.func4,Tryz.ntmps4
 go_wp2_with fail
 refine hz.out.mono ?_
 rintro e w1 ⟨bb,rfl,k1,-⟩
 have k01:=kA.trans k1
 have HBX:=Lib.hid (k1.blk hbx.out trivial)
 cases bb
 ·go_wp2
  go_ret
  exact⟨rfl,k01⟩
 cases big:decide (2147483647<r.length)
 case true=>
  have big':decide ((2147483647:Int)<(r.length:Int))=true:=by simp at big ⊢;omega
  go_wp2
  go_ret
  exact⟨rfl,k01⟩
 have big':decide ((2147483647:Int)<(r.length:Int))=false:=by simp at big ⊢;omega
 have hf1:=faultOf_is [97] [] [] (w1.alloc (.cells #[.string ⟨#[97]⟩,.string ⟨#[]⟩,.slice none 0 0] 45)) (.slice none 0 0) LM.nil
 have HF1:=Lib.hid hf1
 clear hf1
 go_wp2_with fail
 refine HF1.out.mono ?_
 rintro e w2 ⟨d,rfl,k2,hfm⟩
 have k02:=(k01.alloc (.cells #[.string ⟨#[97]⟩,.string ⟨#[]⟩,.slice none 0 0] 45)).trans k2
 have kf:=(Keep.refl (fun _=>True) w2).alloc (.cells #[.int .u64 0,.bool true] 38)
 have hp:=put_is 29 (by omega) (fauF [97] [] []) (by show 3≤1000;omega) (by show 0<3;omega) (fun ks h=>(sample_able h).1) w2.heap.size true _ _ (hfm.keep kf) ⟨0,blk_new w2 _⟩
 have HP:=Lib.hid hp
 have hsz2:=k02.size
 clear hp hfm
 go_wp2_with fail
 refine HP.out.mono ?_
 rintro e w3 ⟨sl,b,ks,rfl,k3,-,hrow,hpk,henc⟩
 have k03:New w w3:=(k02.alloc (.cells #[.int .u64 0,.bool true] 38)).then k3 (fun i hi _=>by show i≠w2.heap.size;omega)
 have hlen:=henc.short
 have hwt:=(sample_able (od:=0) hpk).2
 have hsl:=hrow.out.here
 obtain⟨Asl,csl,hsh,-⟩:=hsl
 have hsl:=hrow.out.here
 have hrd:=readBack (MapA.nil _) hpk henc w3 (HV.out.new k03) sl (r:=[]) (by rw [List.append_nil];exact hsl) (by simp only [wts,Nat.add_zero]at hlen;simp only [List.append_nil];omega)
 subst hsh
 have HRD:=Lib.hid hrd
 clear hrd hsl hrow hpk henc hlen hwt
 go_wp2_with fail
 refine HRD.out.mono ?_
 rintro e w4 ⟨s',us,rest,rfl,k4,hus,-,hcu,hfs⟩
 obtain⟨Au,cu,rfl,-,-⟩:=hus.shape
 obtain⟨nu,hnu⟩:∃nu,nu=us.length:=⟨_,rfl⟩
 rw [←hnu]at hus ⊢
 have k04:=k03.trans k4
 have hs2:=k2.size
 have kS:=(k2.trans kf).then k3 (ok:=fun _=>True) (fun i hi _=>by show i≠w2.heap.size;omega)
 have hsam:=(k4.blk (kS.blk (blk_new w1 (.cells #[.string ⟨#[97]⟩,.string ⟨#[]⟩,.slice none 0 0] 45)) trivial) trivial)
 have kO:=(Keep.refl (fun _=>True) w4).alloc (.cells #[.string ⟨#[97]⟩,.string ⟨#[]⟩,.slice Au nu cu] 45)
 have hone:=blk_new w4 (.cells #[.string ⟨#[97]⟩,.string ⟨#[]⟩,.slice Au nu cu] 45)
 have HSAM:=Lib.hid (kO.blk hsam trivial)
 have HONE:=Lib.hid hone
 have HUS:=Lib.hid (hus.keep kO)
 have HSC:=Lib.hid (fault_samec hfs (by simp [cnts]) (by rw [hcu];simp [cnts]))
 have k05:=k04.trans kO
 have HBX5:=Lib.hid ((k4.trans kO).blk (kS.blk (blk_alloc HBX.out _) trivial) trivial)
 clear hsam hone hus hnu hcu hfs
 have mm:=(Keep.refl (fun _=>True) (w4.alloc (.cells #[.string ⟨#[97]⟩,.string ⟨#[]⟩,.slice Au nu cu] 45))).drew
 have b7:((w4.alloc (.cells #[.string ⟨#[97]⟩,.string ⟨#[]⟩,.slice Au nu cu] 45)).drew).heap[w1.heap.size]? =some (.cells #[.string ⟨#[97]⟩,.string ⟨#[]⟩,.slice none 0 0] 45 (0,0)):=HSAM.out
 have b8:((w4.alloc (.cells #[.string ⟨#[97]⟩,.string ⟨#[]⟩,.slice Au nu cu] 45)).drew).heap[w4.heap.size]? =some (.cells #[.string ⟨#[97]⟩,.string ⟨#[]⟩,.slice Au nu cu] 45 (0,0)):=HONE.out
 have ls0:(w4.alloc (.cells #[.string ⟨#[97]⟩,.string ⟨#[]⟩,.slice Au nu cu] 45)).drew.cell? ⟨w1.heap.size,0,none⟩=some (.string ⟨#[97]⟩):=(blk_cell b7 0).trans rfl;have ls1:(w4.alloc (.cells #[.string ⟨#[97]⟩,.string ⟨#[]⟩,.slice Au nu cu] 45)).drew.cell? ⟨w1.heap.size,1,none⟩=some (.string ⟨#[]⟩):=(blk_cell b7 1).trans rfl;have ls2:(w4.alloc (.cells #[.string ⟨#[97]⟩,.string ⟨#[]⟩,.slice Au nu cu] 45)).drew.cell? ⟨w1.heap.size,2,none⟩=some (.slice none 0 0):=(blk_cell b7 2).trans rfl
 have lo0:(w4.alloc (.cells #[.string ⟨#[97]⟩,.string ⟨#[]⟩,.slice Au nu cu] 45)).drew.cell? ⟨w4.heap.size,0,none⟩=some (.string ⟨#[97]⟩):=(blk_cell b8 0).trans rfl;have lo1:(w4.alloc (.cells #[.string ⟨#[97]⟩,.string ⟨#[]⟩,.slice Au nu cu] 45)).drew.cell? ⟨w4.heap.size,1,none⟩=some (.string ⟨#[]⟩):=(blk_cell b8 1).trans rfl;have lo2:(w4.alloc (.cells #[.string ⟨#[97]⟩,.string ⟨#[]⟩,.slice Au nu cu] 45)).drew.cell? ⟨w4.heap.size,2,none⟩=some (.slice Au nu cu):=(blk_cell b8 2).trans rfl
 have HFA:=Lib.hid (fun W=>faultOf_is [97] [] [] W (.slice none 0 0) LM.nil)
 have HFB:=Lib.hid (fun W (k:New (w4.alloc (.cells #[.string ⟨#[97]⟩,.string ⟨#[]⟩,.slice Au nu cu] 45)) W)=>faultOf_is [97] [] us W (.slice Au nu cu) (HUS.out.keep k))
 have HSA:=Lib.hid (fun W sA sB h1 h2=>same_is 29 (by omega) (fauF [97] [] []) (fauF [97] [] us) (by show 3≤1000;omega) (by show 3≤3;omega) HSC.out W sA sB h1 h2)
 go_wp2_with fail
 go_upto_region 5 with fail
 go_cut [11] (fun s11 wc=>s11=.bool true∧New (w4.alloc (.cells #[.string ⟨#[97]⟩,.string ⟨#[]⟩,.slice Au nu cu] 45)) wc)
 case first=>
  go_region_law
   (first
    | (go_simp;go_at_call 16;((with_reducible refine(HFA.out _).mono ?_));rintro e wa ⟨da,rfl,ka,hfa⟩;have mm:=Keep.trans (show New (w4.alloc (.cells #[.string ⟨#[97]⟩,.string ⟨#[]⟩,.slice Au nu cu] 45)) _ by assumption) ka;(try have hfb:=FM.keep hfb ka);have b8:=ka.blk (b:=w4.heap.size) (o:=.cells #[.string ⟨#[97]⟩,.string ⟨#[]⟩,.slice Au nu cu] 45 (0,0)) (by assumption) trivial;have lo0:wa.cell? ⟨w4.heap.size,0,none⟩=some (.string ⟨#[97]⟩):=(blk_cell b8 0).trans rfl;have lo1:wa.cell? ⟨w4.heap.size,1,none⟩=some (.string ⟨#[]⟩):=(blk_cell b8 1).trans rfl;have lo2:wa.cell? ⟨w4.heap.size,2,none⟩=some (.slice Au nu cu):=(blk_cell b8 2).trans rfl)
    | (go_simp;go_at_call 16;((with_reducible refine(HFA.out _).mono ?_));rintro e wa ⟨da,rfl,ka,hfa⟩;have mm:=Keep.trans (show New (w4.alloc (.cells #[.string ⟨#[97]⟩,.string ⟨#[]⟩,.slice Au nu cu] 45)) _ by assumption) ka;(try have hfb:=FM.keep hfb ka))
    | (go_simp;go_at_call 16;((with_reducible refine(HFB.out _ (by assumption)).mono ?_));rintro e wb ⟨db,rfl,kb,hfb⟩;have mm:=Keep.trans (show New (w4.alloc (.cells #[.string ⟨#[97]⟩,.string ⟨#[]⟩,.slice Au nu cu] 45)) _ by assumption) kb;(try have hfa:=FM.keep hfa kb);have b7:=kb.blk (b:=w1.heap.size) (o:=.cells #[.string ⟨#[97]⟩,.string ⟨#[]⟩,.slice none 0 0] 45 (0,0)) (by assumption) trivial;have ls0:wb.cell? ⟨w1.heap.size,0,none⟩=some (.string ⟨#[97]⟩):=(blk_cell b7 0).trans rfl;have ls1:wb.cell? ⟨w1.heap.size,1,none⟩=some (.string ⟨#[]⟩):=(blk_cell b7 1).trans rfl;have ls2:wb.cell? ⟨w1.heap.size,2,none⟩=some (.slice none 0 0):=(blk_cell b7 2).trans rfl)
    | (go_simp;go_at_call 16;((with_reducible refine(HFB.out _ (by assumption)).mono ?_));rintro e wb ⟨db,rfl,kb,hfb⟩;have mm:=Keep.trans (show New (w4.alloc (.cells #[.string ⟨#[97]⟩,.string ⟨#[]⟩,.slice Au nu cu] 45)) _ by assumption) kb;(try have hfa:=FM.keep hfa kb))
    | (go_simp;go_at_call 10;refine(HSA.out _ _ _ hfa hfb).mono ?_;rintro e wz ⟨rfl,kz⟩;have mm:=Keep.trans (show New (w4.alloc (.cells #[.string ⟨#[97]⟩,.string ⟨#[]⟩,.slice Au nu cu] 45)) _ by assumption) kz))
  all_goals
   go_wp2
   go_meet
   exact⟨rfl,mm⟩
 case rest=>
  obtain⟨rfl,kc⟩:=hcut
  have k06:=k05.trans kc
  have HB6:=Lib.hid (kc.blk HBX5.out trivial)
  have z0:wc.cell? ⟨w.heap.size,0,none⟩=some (.string ⟨t0.toArray⟩):=(blk_cell HB6.out 0).trans rfl
  have z1:wc.cell? ⟨w.heap.size,1,none⟩=some (.string ⟨t1.toArray⟩):=(blk_cell HB6.out 1).trans rfl
  have z2:wc.cell? ⟨w.heap.size,2,none⟩=some (.slice A n c):=(blk_cell HB6.out 2).trans rfl
  have HAF:=Lib.hid (askedFault_is t0 t1 l wc (HV.out.new k06) _ (HS.out.keep k06))
  go_wp2_with fail
  refine HAF.out.mono ?_
  rintro e w6 ⟨b6,rfl,k6,hb6⟩
  have HB6':=Lib.hid hb6
  have k07:=k06.trans k6
  have HBX6:=Lib.hid (k6.blk HB6.out trivial)
  have z0:w6.cell? ⟨w.heap.size,0,none⟩=some (.string ⟨t0.toArray⟩):=(blk_cell HBX6.out 0).trans rfl
  have z1:w6.cell? ⟨w.heap.size,1,none⟩=some (.string ⟨t1.toArray⟩):=(blk_cell HBX6.out 1).trans rfl
  have z2:w6.cell? ⟨w.heap.size,2,none⟩=some (.slice A n c):=(blk_cell HBX6.out 2).trans rfl
  clear hb6
  cases b6
  ·go_wp2
   go_ret
   exact⟨rfl,k07⟩
  have HMA:=Lib.hid (HB6'.out (by first | rfl | trivial))
  have HF7:=Lib.hid (faultOf_is t0 t1 l w6 _ (HS.out.keep k07))
  go_wp2_with fail
  refine HF7.out.mono ?_
  rintro e w7 ⟨d7,rfl,k7,hfm7⟩
  have k08:=k07.trans k7
  have HCF:=Lib.hid (compFits_is 29 (by omega) (fauF t0 t1 l) (by show 3≤1000;omega) w7 (HV.out.new k08) _ hfm7)
  clear hfm7
  go_wp2_with fail
  refine HCF.out.mono ?_
  rintro e w8 ⟨b8,rfl,k8,hb8⟩
  have HB8:=Lib.hid hb8
  have k09:=k08.trans k8
  clear hb8
  cases b8
  ·go_wp2
   go_ret
   exact⟨rfl,k09⟩
  have HFIT:=Lib.hid (HB8.out (by first | rfl | trivial))
  cases h100:decide (100<r.length)
  case true=>
   have h100':decide ((100:Int)<(r.length:Int))=true:=by simp at h100 ⊢;omega
   go_wp2
   go_ret
   exact⟨rfl,k09⟩
  have h100':decide ((100:Int)<(r.length:Int))=false:=by simp at h100 ⊢;omega
  have HBX8:=Lib.hid ((k7.trans k8).blk HBX6.out trivial)
  have z0:w8.cell? ⟨w.heap.size,0,none⟩=some (.string ⟨t0.toArray⟩):=(blk_cell HBX8.out 0).trans rfl
  have z1:w8.cell? ⟨w.heap.size,1,none⟩=some (.string ⟨t1.toArray⟩):=(blk_cell HBX8.out 1).trans rfl
  have z2:w8.cell? ⟨w.heap.size,2,none⟩=some (.slice A n c):=(blk_cell HBX8.out 2).trans rfl
  have HF9:=Lib.hid (faultOf_is t0 t1 l w8 _ (HS.out.keep k09))
  go_wp2_with fail
  refine HF9.out.mono ?_
  rintro e w9 ⟨d9,rfl,k9,hfm9⟩
  have k10:=k09.trans k9
  have kf9:=(Keep.refl (fun _=>True) w9).alloc (.cells #[.int .u64 (forms:Int),.bool false] 38)
  have HP9:=Lib.hid (put_is 29 (by omega) (fauF t0 t1 l) (by show 3≤1000;omega) (by show 0<3;omega) (fun ks h=>(fault_able HMA.out HFIT.out.1 HFIT.out.2 h).1) w9.heap.size false _ _ (hfm9.keep kf9) ⟨forms,blk_new w9 _⟩)
  have hsz9:=k10.size
  have hs9:=k9.size
  clear hfm9
  go_wp2_with fail
  refine HP9.out.mono ?_
  rintro e wp ⟨sl9,bt,ks9,rfl,kp,-,hrow9,hpk9,henc9⟩
  have k11:New w wp:=(k10.alloc (.cells #[.int .u64 (forms:Int),.bool false] 38)).then kp (fun i hi _=>by show i≠w9.heap.size;omega)
  have hlen9:=henc9.short
  have hwt9:=(fault_able (od:=0) HMA.out HFIT.out.1 HFIT.out.2 hpk9).2
  simp only [wts,Nat.add_zero]at hlen9
  have hr100:r.length≤100:=by simp at h100;omega
  have happ:=hrow9.appC (HB.out.keep k11) (by omega) kp.size
  obtain⟨sk2,wq,hap,hrow2,kq,-⟩:=happ
  obtain⟨A9,c9,hsh9⟩:=hrow9.shape
  subst hsh9
  have HAP:=Lib.hid hap
  have kfar:∀i,i<w9.heap.size→some i≠(Value.slice A9 bt.length c9).ownBlock:=fun i hi=>hrow9.far i (by simp;omega)
  have k12:New w wq:=k11.then kq (fun i hi _=>kfar i (by omega))
  have HRD9:=Lib.hid (readBack HMA.out hpk9 henc9 wq (HV.out.new k12) sk2 (r:=r) hrow2.out.here (by rw [List.length_append];omega))
  have q9:=k9.blk HBX8.out trivial
  have l9:=lt_blk q9
  have HQQ:=Lib.hid (kq.blk (kp.blk (blk_alloc q9 (.cells #[.int .u64 (forms:Int),.bool false] 38)) (show w.heap.size≠w9.heap.size by omega)) (kfar _ l9))
  clear q9
  obtain⟨A10,c10,hsh10⟩:=hrow2.shape
  obtain⟨nb,hnb⟩:∃nb,nb=(bt++r).length:=⟨_,rfl⟩
  rw [←hnb]at hsh10
  subst hsh10
  clear hnb
  clear hap hrow9 hrow2 kq hpk9 henc9 hlen9 hwt9
  go_wp2_with (at_builtin;refine wpList_append_eq rfl _ _ 27 rfl _ _ _ _ rfl rfl HAP.out ?_)
  refine HRD9.out.mono ?_
  rintro e wu ⟨s9,us9,rest9,rfl,ku,hus9,hrest9,hcu9,hfs9⟩
  obtain⟨Au9,cu9,rfl,-,-⟩:=hus9.shape
  obtain⟨nu9,hnu9⟩:∃nu,nu=us9.length:=⟨_,rfl⟩
  rw [←hnu9]at hus9 ⊢
  have k13:=k12.trans ku
  have HSC9:=Lib.hid (fault_samec hfs9 (fault_cnts HFIT.out.2) (by rw [hcu9];exact fault_cnts HFIT.out.2))
  have HU9:=Lib.hid hus9
  have HR9:=Lib.hid hrest9.toC
  clear hus9 hrest9 hcu9 hfs9 hnu9
  have kO9:=(Keep.refl (fun _=>True) wu).alloc (.cells #[.string ⟨t0.toArray⟩,.string ⟨t1.toArray⟩,.slice Au9 nu9 cu9] 45)
  have k14:=k13.trans kO9
  have mm:=(Keep.refl (fun _=>True) (wu.alloc (.cells #[.string ⟨t0.toArray⟩,.string ⟨t1.toArray⟩,.slice Au9 nu9 cu9] 45))).drew
  have b7:(wu.alloc (.cells #[.string ⟨t0.toArray⟩,.string ⟨t1.toArray⟩,.slice Au9 nu9 cu9] 45)).drew.heap[w.heap.size]? =some (.cells #[.string ⟨t0.toArray⟩,.string ⟨t1.toArray⟩,.slice A n c] 45 (0,0)):=kO9.blk (ku.blk HQQ.out trivial) trivial
  have b8:(wu.alloc (.cells #[.string ⟨t0.toArray⟩,.string ⟨t1.toArray⟩,.slice Au9 nu9 cu9] 45)).drew.heap[wu.heap.size]? =some (.cells #[.string ⟨t0.toArray⟩,.string ⟨t1.toArray⟩,.slice Au9 nu9 cu9] 45 (0,0)):=blk_new wu (.cells #[.string ⟨t0.toArray⟩,.string ⟨t1.toArray⟩,.slice Au9 nu9 cu9] 45)
  have ls0:(wu.alloc (.cells #[.string ⟨t0.toArray⟩,.string ⟨t1.toArray⟩,.slice Au9 nu9 cu9] 45)).drew.cell? ⟨w.heap.size,0,none⟩=some (.string ⟨t0.toArray⟩):=(blk_cell b7 0).trans rfl
  have ls1:(wu.alloc (.cells #[.string ⟨t0.toArray⟩,.string ⟨t1.toArray⟩,.slice Au9 nu9 cu9] 45)).drew.cell? ⟨w.heap.size,1,none⟩=some (.string ⟨t1.toArray⟩):=(blk_cell b7 1).trans rfl
  have ls2:(wu.alloc (.cells #[.string ⟨t0.toArray⟩,.string ⟨t1.toArray⟩,.slice Au9 nu9 cu9] 45)).drew.cell? ⟨w.heap.size,2,none⟩=some (.slice A n c):=(blk_cell b7 2).trans rfl
  have lo0:(wu.alloc (.cells #[.string ⟨t0.toArray⟩,.string ⟨t1.toArray⟩,.slice Au9 nu9 cu9] 45)).drew.cell? ⟨wu.heap.size,0,none⟩=some (.string ⟨t0.toArray⟩):=(blk_cell b8 0).trans rfl
  have lo1:(wu.alloc (.cells #[.string ⟨t0.toArray⟩,.string ⟨t1.toArray⟩,.slice Au9 nu9 cu9] 45)).drew.cell? ⟨wu.heap.size,1,none⟩=some (.string ⟨t1.toArray⟩):=(blk_cell b8 1).trans rfl
  have lo2:(wu.alloc (.cells #[.string ⟨t0.toArray⟩,.string ⟨t1.toArray⟩,.slice Au9 nu9 cu9] 45)).drew.cell? ⟨wu.heap.size,2,none⟩=some (.slice Au9 nu9 cu9):=(blk_cell b8 2).trans rfl
  have HFA:=Lib.hid (fun W (k:New (wu.alloc (.cells #[.string ⟨t0.toArray⟩,.string ⟨t1.toArray⟩,.slice Au9 nu9 cu9] 45)) W)=>faultOf_is t0 t1 l W (.slice A n c) (HS.out.keep (k14.trans k)))
  have HFB:=Lib.hid (fun W (k:New (wu.alloc (.cells #[.string ⟨t0.toArray⟩,.string ⟨t1.toArray⟩,.slice Au9 nu9 cu9] 45)) W)=>faultOf_is t0 t1 us9 W (.slice Au9 nu9 cu9) ((HU9.out.keep kO9).keep k))
  have HSA:=Lib.hid (fun W sA sB h1 h2=>same_is 29 (by omega) (fauF t0 t1 l) (fauF t0 t1 us9) (by show 3≤1000;omega) (by show 3≤3;omega) HSC9.out W sA sB h1 h2)
  have HLE:=Lib.hid (fun W (k:New (wu.alloc (.cells #[.string ⟨t0.toArray⟩,.string ⟨t1.toArray⟩,.slice Au9 nu9 cu9] 45)) W)=>left_is r W rest9 (.slice Ab r.length cb) ((HR9.out.keep kO9).keep k) (HB.out.keep (k14.trans k)))
  clear b7 b8
  go_wp2_with fail
  go_region_law
   (first
    | (go_simp;go_at_call 16;((with_reducible refine(HFA.out _ (by assumption)).mono ?_));rintro e wa ⟨da,rfl,ka,hfa⟩;have mm:=Keep.trans (show New (wu.alloc (.cells #[.string ⟨t0.toArray⟩,.string ⟨t1.toArray⟩,.slice Au9 nu9 cu9] 45)) _ by assumption) ka;have lo0:=ka.cell lo0 trivial;have lo1:=ka.cell lo1 trivial;have lo2:=ka.cell lo2 trivial)
    | (go_simp;go_at_call 16;((with_reducible refine(HFB.out _ (by assumption)).mono ?_));rintro e wb ⟨db,rfl,kb,hfb⟩;have mm:=Keep.trans (show New (wu.alloc (.cells #[.string ⟨t0.toArray⟩,.string ⟨t1.toArray⟩,.slice Au9 nu9 cu9] 45)) _ by assumption) kb;have hfa:=FM.keep hfa kb)
    | (go_simp;go_at_call 10;refine(HSA.out _ _ _ hfa hfb).mono ?_;rintro e wz ⟨rfl,kz⟩;have mm:=Keep.trans (show New (wu.alloc (.cells #[.string ⟨t0.toArray⟩,.string ⟨t1.toArray⟩,.slice Au9 nu9 cu9] 45)) _ by assumption) kz)
    | (go_simp;go_at_call 13;((with_reducible refine(HLE.out _ (by assumption)).mono ?_));rintro e wy ⟨rfl,ky⟩;have mm:=Keep.trans (show New (wu.alloc (.cells #[.string ⟨t0.toArray⟩,.string ⟨t1.toArray⟩,.slice Au9 nu9 cu9] 45)) _ by assumption) ky))
  all_goals
   go_wp2
   go_ret
   exact⟨rfl,k14.trans mm⟩
end Go.Proofs.YtfoegolfadhmjaaGreatDoor
