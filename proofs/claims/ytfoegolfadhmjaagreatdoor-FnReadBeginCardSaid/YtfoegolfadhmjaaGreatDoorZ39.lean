/- spec.Field.SameField at values without descriptors. -/
import Derived.Test.YtfoegolfadhmjaaGreatDoorZ26
import Derived.Test.YtfoegolfadhmjaaGreatDoorZ31
set_option linter.all false
set_option maxRecDepth 100000
set_option maxHeartbeats 8000000
namespace Go.Proofs.YtfoegolfadhmjaaGreatDoor
open Go.RowKit Go.WideShapes Go.Sort
theorem VM.shown{w:World}{u:V}{y:Value}(h:VM w u y):∃A c B p,y=.agg #[.int .i64 u.kind,.int .u64 (u.num:Int),.string ⟨u.text.toArray⟩,.slice A u.kids.length c,.int .i64 u.of,.slice B u.desc.length p]:=by
 obtain⟨A,c,o,A',c',rfl,-,ho⟩:=h.parts'
 exact⟨A,c,A',c',by rw [ho]⟩
theorem sameField_is(d a b:V)(hFS:FS d a b)(ha:cnt a≤1000000)(hb:cnt b≤1000000)(hd:cnt d≤1000000)(w:World)(f0 f1 f2 f3 f4 f5 d0 d1 d2 d3 d4 d5:Value)(hvd:VM w d (.agg #[d0,d1,d2,d3,d4,d5]))(x y:Value)(hx:VM w a x)(hy:VM w b y):
 Calls Tryz.prog 86 #[.agg #[f0,f1,f2,f3,f4,f5,d0,d1,d2,d3,d4,d5],x,y] w fun e w'=>e=.returned (.bool true)∧New w w':=by
 have HVD:=Lib.hid hvd
 have HX:=Lib.hid hx
 have HY:=Lib.hid hy
 obtain⟨dA,dc,dB,dp,hde⟩:=hvd.shown
 simp only [Value.agg.injEq,Array.mk.injEq,List.cons.injEq,and_true]at hde
 obtain⟨rfl,rfl,rfl,rfl,rfl,rfl⟩:=hde
 obtain⟨aA,ac,aB,ap,rfl⟩:=hx.shown
 obtain⟨bA,bc,bB,bp,rfl⟩:=hy.shown
 clear hvd hx hy
 go_enter Tryz.func86,Tryz.ntmps86
 go_upto_if 11 with fail
 go_cut [] (fun wc=>∃A c B p,VM w (dfl d a) (.agg #[.int .i64 (dfl d a).kind,.int .u64 ((dfl d a).num:Int),.string ⟨(dfl d a).text.toArray⟩,.slice A (dfl d a).kids.length c,.int .i64 (dfl d a).of,.slice B (dfl d a).desc.length p])∧wc=((w.alloc (.cells #[f0,f1,f2,f3,f4,f5,.int .i64 d.kind,.int .u64 (d.num:Int),.string ⟨d.text.toArray⟩,.slice dA d.kids.length dc,.int .i64 d.of,.slice dB d.desc.length dp] 81)).alloc (.cells #[.int .i64 (dfl d a).kind,.int .u64 ((dfl d a).num:Int),.string ⟨(dfl d a).text.toArray⟩,.slice A (dfl d a).kids.length c,.int .i64 (dfl d a).of,.slice B (dfl d a).desc.length p] 78)).alloc (.cells #[.int .i64 b.kind,.int .u64 (b.num:Int),.string ⟨b.text.toArray⟩,.slice bA b.kids.length bc,.int .i64 b.of,.slice bB b.desc.length bp] 78))
 case first=>
  by_cases h0:a.kind=0
  ·have e:=dfl_of d a h0
   have t0:(a.kind==0)=true:=by simpa using h0
   have E:=Lib.hid e
   clear h0 e
   go_wp2
   go_meet
   exact⟨dA,dc,dB,dp,by rw [E.out];exact HVD.out,by rw [E.out]⟩
  ·have e:=dfl_nul a h0 d
   have t0:(a.kind==0)=false:=by simpa using h0
   have E:=Lib.hid e
   clear h0 e
   go_wp2
   go_meet
   exact⟨aA,ac,aB,ap,by rw [E.out];exact HX.out,by rw [E.out]⟩
 case rest=>
  obtain⟨A,c,B,p,hva,hwc⟩:=hcut
  have HVA:=Lib.hid hva
  obtain rfl:=hwc.symm
  obtain⟨a',ha'⟩:∃a',a'=dfl d a:=⟨_,rfl⟩
  rw [←ha']at HVA ⊢
  have HA':=Lib.hid ha'
  clear hva ha' HX
  go_upto_if 16 with fail
  go_cut [] (fun wc=>∃A2 c2 B2 p2,VM w (dfl d b) (.agg #[.int .i64 (dfl d b).kind,.int .u64 ((dfl d b).num:Int),.string ⟨(dfl d b).text.toArray⟩,.slice A2 (dfl d b).kids.length c2,.int .i64 (dfl d b).of,.slice B2 (dfl d b).desc.length p2])∧wc=((w.alloc (.cells #[f0,f1,f2,f3,f4,f5,.int .i64 d.kind,.int .u64 (d.num:Int),.string ⟨d.text.toArray⟩,.slice dA d.kids.length dc,.int .i64 d.of,.slice dB d.desc.length dp] 81)).alloc (.cells #[.int .i64 a'.kind,.int .u64 (a'.num:Int),.string ⟨a'.text.toArray⟩,.slice A a'.kids.length c,.int .i64 a'.of,.slice B a'.desc.length p] 78)).alloc (.cells #[.int .i64 (dfl d b).kind,.int .u64 ((dfl d b).num:Int),.string ⟨(dfl d b).text.toArray⟩,.slice A2 (dfl d b).kids.length c2,.int .i64 (dfl d b).of,.slice B2 (dfl d b).desc.length p2] 78))
  case first=>
   by_cases h0:b.kind=0
   ·have e:=dfl_of d b h0
    have t0:(b.kind==0)=true:=by simpa using h0
    have E:=Lib.hid e
    clear h0 e
    go_wp2
    go_meet
    exact⟨dA,dc,dB,dp,by rw [E.out];exact HVD.out,by rw [E.out]⟩
   ·have e:=dfl_nul b h0 d
    have t0:(b.kind==0)=false:=by simpa using h0
    have E:=Lib.hid e
    clear h0 e
    go_wp2
    go_meet
    exact⟨bA,bc,bB,bp,by rw [E.out];exact HY.out,by rw [E.out]⟩
  case rest=>
   obtain⟨A2,c2,B2,p2,hvb,hwc⟩:=hcut
   have HVB:=Lib.hid hvb
   obtain rfl:=hwc.symm
   obtain⟨b',hb'⟩:∃b',b'=dfl d b:=⟨_,rfl⟩
   rw [←hb']at HVB ⊢
   have HB':=Lib.hid hb'
   have hta:Tidy [a']:=by rw [HA'.out];exact hFS.ta
   have htb:Tidy [b']:=by rw [hb'];exact hFS.tb
   have hsm:sameL (usualV a') (usualV b')=true:=by rw [HA'.out,hb'];exact hFS.same
   have hca:cnt a'≤1000000:=by rw [HA'.out];unfold dfl;split<;>assumption
   have hcb:cnt b'≤1000000:=by rw [hb'];unfold dfl;split<;>assumption
   have hda:a'.desc=[]:=by obtain⟨_,_,_,_,_,e,-⟩:=hta.inv;rw [e];rfl
   rw [hda]at HVA ⊢
   have HTA:=Lib.hid hta
   have HTB:=Lib.hid htb
   have HSM:=Lib.hid hsm
   clear hvb hb' HY HVD hta htb hsm hda hFS
   simp only [List.length_nil]at HVA ⊢
   have k0:=(((Keep.refl (fun _=>True) w).alloc (.cells #[f0,f1,f2,f3,f4,f5,.int .i64 d.kind,.int .u64 (d.num:Int),.string ⟨d.text.toArray⟩,.slice dA d.kids.length dc,.int .i64 d.of,.slice dB d.desc.length dp] 81)).alloc (.cells #[.int .i64 a'.kind,.int .u64 (a'.num:Int),.string ⟨a'.text.toArray⟩,.slice A a'.kids.length c,.int .i64 a'.of,.slice B 0 p] 78)).alloc (.cells #[.int .i64 b'.kind,.int .u64 (b'.num:Int),.string ⟨b'.text.toArray⟩,.slice A2 b'.kids.length c2,.int .i64 b'.of,.slice B2 b'.desc.length p2] 78)
   have hba:=blk_alloc (blk_new (w.alloc (.cells #[f0,f1,f2,f3,f4,f5,.int .i64 d.kind,.int .u64 (d.num:Int),.string ⟨d.text.toArray⟩,.slice dA d.kids.length dc,.int .i64 d.of,.slice dB d.desc.length dp] 81)) (.cells #[.int .i64 a'.kind,.int .u64 (a'.num:Int),.string ⟨a'.text.toArray⟩,.slice A a'.kids.length c,.int .i64 a'.of,.slice B 0 p] 78)) (.cells #[.int .i64 b'.kind,.int .u64 (b'.num:Int),.string ⟨b'.text.toArray⟩,.slice A2 b'.kids.length c2,.int .i64 b'.of,.slice B2 b'.desc.length p2] 78)
   simp only [World.size_alloc]at hba
   have hbb:=blk_new ((w.alloc (.cells #[f0,f1,f2,f3,f4,f5,.int .i64 d.kind,.int .u64 (d.num:Int),.string ⟨d.text.toArray⟩,.slice dA d.kids.length dc,.int .i64 d.of,.slice dB d.desc.length dp] 81)).alloc (.cells #[.int .i64 a'.kind,.int .u64 (a'.num:Int),.string ⟨a'.text.toArray⟩,.slice A a'.kids.length c,.int .i64 a'.of,.slice B 0 p] 78)) (.cells #[.int .i64 b'.kind,.int .u64 (b'.num:Int),.string ⟨b'.text.toArray⟩,.slice A2 b'.kids.length c2,.int .i64 b'.of,.slice B2 b'.desc.length p2] 78)
   simp only [World.size_alloc]at hbb
   obtain⟨W,hW⟩:∃W,W=((w.alloc (.cells #[f0,f1,f2,f3,f4,f5,.int .i64 d.kind,.int .u64 (d.num:Int),.string ⟨d.text.toArray⟩,.slice dA d.kids.length dc,.int .i64 d.of,.slice dB d.desc.length dp] 81)).alloc (.cells #[.int .i64 a'.kind,.int .u64 (a'.num:Int),.string ⟨a'.text.toArray⟩,.slice A a'.kids.length c,.int .i64 a'.of,.slice B 0 p] 78)).alloc (.cells #[.int .i64 b'.kind,.int .u64 (b'.num:Int),.string ⟨b'.text.toArray⟩,.slice A2 b'.kids.length c2,.int .i64 b'.of,.slice B2 b'.desc.length p2] 78):=⟨_,rfl⟩
   rw [←hW]at k0 hba hbb ⊢
   clear hW
   have z5:=(blk_cell hba 5).trans rfl
   have z5':=fun x os=>cell_regrown z5 x os
   have HBA:=Lib.hid hba
   have HBB:=Lib.hid hbb
   clear hba hbb
   go_wp2_with fail
   refine wp_region_quiet_below (by kernel_rfl) (by kernel_rfl) ?_
   repeat (go_big_quiet_step (fail))
   refine wpQuiet_nil ?_
   intro _ hw'
   obtain⟨⟨dq,osq⟩,hw''⟩:=hw'
   subst hw''
   have kx:=new_regrown W dq osq
   obtain⟨W1,hW1⟩:∃W1,W1=grow (redrawn W dq) osq:=⟨_,rfl⟩
   rw [←hW1]at kx ⊢
   clear hW1 z5 z5'
   go_wp2_with fail
   have UA:=Lib.hid (fun W' (k:New w W')=>usual_val (cnt a') hca a' (Nat.le_refl _) HTA.out W' _ (HVA.out.keep k))
   have UB:=Lib.hid (fun W' (k:New w W')=>usual_val (cnt b') hcb b' (Nat.le_refl _) HTB.out W' _ (HVB.out.keep k))
   have LV:=Lib.hid (fun W' y1 y2 h1 h2=>loose_val 1000000 (by omega) (usualV a') (usualV b') (Nat.le_trans (cnt_usual _ a' (Nat.le_refl _)) hca) (NoD.usual _ a' (Nat.le_refl _) HTA.out.noD) (NoD.usual _ b' (Nat.le_refl _) HTB.out.noD) W' y1 y2 h1 h2)
   rw [HSM.out]at LV
   have kd:=(Keep.refl (fun _=>True) W1).drew
   have nn:New w W1.drew:=(k0.trans kx).trans kd
   have BA:W1.drew.heap[w.heap.size+1]? =some (.cells #[.int .i64 a'.kind,.int .u64 (a'.num:Int),.string ⟨a'.text.toArray⟩,.slice A a'.kids.length c,.int .i64 a'.of,.slice B 0 p] 78 (0,0)):=(kx.trans kd).blk HBA.out trivial
   have BB:W1.drew.heap[w.heap.size+1+1]? =some (.cells #[.int .i64 b'.kind,.int .u64 (b'.num:Int),.string ⟨b'.text.toArray⟩,.slice A2 b'.kids.length c2,.int .i64 b'.of,.slice B2 b'.desc.length p2] 78 (0,0)):=(kx.trans kd).blk HBB.out trivial
   have lp0:W1.drew.cell? ⟨w.heap.size+1,0,none⟩=some (.int .i64 a'.kind):=(blk_cell BA 0).trans rfl;have lp1:W1.drew.cell? ⟨w.heap.size+1,1,none⟩=some (.int .u64 (a'.num:Int)):=(blk_cell BA 1).trans rfl;have lp2:W1.drew.cell? ⟨w.heap.size+1,2,none⟩=some (.string ⟨a'.text.toArray⟩):=(blk_cell BA 2).trans rfl;have lp3:W1.drew.cell? ⟨w.heap.size+1,3,none⟩=some (.slice A a'.kids.length c):=(blk_cell BA 3).trans rfl;have lp4:W1.drew.cell? ⟨w.heap.size+1,4,none⟩=some (.int .i64 a'.of):=(blk_cell BA 4).trans rfl;have lp5:W1.drew.cell? ⟨w.heap.size+1,5,none⟩=some (.slice B 0 p):=(blk_cell BA 5).trans rfl
   have lr0:W1.drew.cell? ⟨w.heap.size+1+1,0,none⟩=some (.int .i64 b'.kind):=(blk_cell BB 0).trans rfl;have lr1:W1.drew.cell? ⟨w.heap.size+1+1,1,none⟩=some (.int .u64 (b'.num:Int)):=(blk_cell BB 1).trans rfl;have lr2:W1.drew.cell? ⟨w.heap.size+1+1,2,none⟩=some (.string ⟨b'.text.toArray⟩):=(blk_cell BB 2).trans rfl;have lr3:W1.drew.cell? ⟨w.heap.size+1+1,3,none⟩=some (.slice A2 b'.kids.length c2):=(blk_cell BB 3).trans rfl;have lr4:W1.drew.cell? ⟨w.heap.size+1+1,4,none⟩=some (.int .i64 b'.of):=(blk_cell BB 4).trans rfl;have lr5:W1.drew.cell? ⟨w.heap.size+1+1,5,none⟩=some (.slice B2 b'.desc.length p2):=(blk_cell BB 5).trans rfl
   go_region_law
    (first
     | (go_simp;go_at_call 138;((with_reducible refine(UA.out _ (by assumption)).mono ?_));rintro e wa ⟨ya,rfl,ka,hya⟩;have vA:=hya.here;obtain⟨mA,mc,mB,mp,rfl⟩:=vA.shown;have nn:=Keep.trans (show New w _ by assumption) ka;(try have vB:=VM.keep vB ka);have BB:=ka.blk (b:=w.heap.size+1+1) (o:=.cells #[.int .i64 b'.kind,.int .u64 (b'.num:Int),.string ⟨b'.text.toArray⟩,.slice A2 b'.kids.length c2,.int .i64 b'.of,.slice B2 b'.desc.length p2] 78 (0,0)) (by assumption) trivial;have lr0:wa.cell? ⟨w.heap.size+1+1,0,none⟩=some (.int .i64 b'.kind):=(blk_cell BB 0).trans rfl;have lr1:wa.cell? ⟨w.heap.size+1+1,1,none⟩=some (.int .u64 (b'.num:Int)):=(blk_cell BB 1).trans rfl;have lr2:wa.cell? ⟨w.heap.size+1+1,2,none⟩=some (.string ⟨b'.text.toArray⟩):=(blk_cell BB 2).trans rfl;have lr3:wa.cell? ⟨w.heap.size+1+1,3,none⟩=some (.slice A2 b'.kids.length c2):=(blk_cell BB 3).trans rfl;have lr4:wa.cell? ⟨w.heap.size+1+1,4,none⟩=some (.int .i64 b'.of):=(blk_cell BB 4).trans rfl;have lr5:wa.cell? ⟨w.heap.size+1+1,5,none⟩=some (.slice B2 b'.desc.length p2):=(blk_cell BB 5).trans rfl)
     | (go_simp;go_at_call 138;((with_reducible refine(UA.out _ (by assumption)).mono ?_));rintro e wa ⟨ya,rfl,ka,hya⟩;have vA:=hya.here;obtain⟨mA,mc,mB,mp,rfl⟩:=vA.shown;have nn:=Keep.trans (show New w _ by assumption) ka;(try have vB:=VM.keep vB ka))
     | (go_simp;go_at_call 138;((with_reducible refine(UB.out _ (by assumption)).mono ?_));rintro e wb ⟨yb,rfl,kb,hyb⟩;have vB:=hyb.here;obtain⟨nA,nc,nB,np,rfl⟩:=vB.shown;have nn:=Keep.trans (show New w _ by assumption) kb;(try have vA:=VM.keep vA kb);have BA:=kb.blk (b:=w.heap.size+1) (o:=.cells #[.int .i64 a'.kind,.int .u64 (a'.num:Int),.string ⟨a'.text.toArray⟩,.slice A a'.kids.length c,.int .i64 a'.of,.slice B 0 p] 78 (0,0)) (by assumption) trivial;have lp0:wb.cell? ⟨w.heap.size+1,0,none⟩=some (.int .i64 a'.kind):=(blk_cell BA 0).trans rfl;have lp1:wb.cell? ⟨w.heap.size+1,1,none⟩=some (.int .u64 (a'.num:Int)):=(blk_cell BA 1).trans rfl;have lp2:wb.cell? ⟨w.heap.size+1,2,none⟩=some (.string ⟨a'.text.toArray⟩):=(blk_cell BA 2).trans rfl;have lp3:wb.cell? ⟨w.heap.size+1,3,none⟩=some (.slice A a'.kids.length c):=(blk_cell BA 3).trans rfl;have lp4:wb.cell? ⟨w.heap.size+1,4,none⟩=some (.int .i64 a'.of):=(blk_cell BA 4).trans rfl;have lp5:wb.cell? ⟨w.heap.size+1,5,none⟩=some (.slice B 0 p):=(blk_cell BA 5).trans rfl)
     | (go_simp;go_at_call 138;((with_reducible refine(UB.out _ (by assumption)).mono ?_));rintro e wb ⟨yb,rfl,kb,hyb⟩;have vB:=hyb.here;obtain⟨nA,nc,nB,np,rfl⟩:=vB.shown;have nn:=Keep.trans (show New w _ by assumption) kb;(try have vA:=VM.keep vA kb))
     | (go_simp;go_at_call 137;refine(LV.out _ _ _ vA vB).mono ?_;rintro e wz ⟨rfl,kz⟩;have nn:=Keep.trans (show New w _ by assumption) kz))
   all_goals
    go_wp2
    go_ret
    exact⟨rfl,nn⟩
end Go.Proofs.YtfoegolfadhmjaaGreatDoor
