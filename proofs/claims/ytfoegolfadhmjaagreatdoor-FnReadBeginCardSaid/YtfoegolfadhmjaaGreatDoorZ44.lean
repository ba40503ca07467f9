/- What was read of a begin, as the program's own. -/
import Derived.Test.YtfoegolfadhmjaaGreatDoorZ43
set_option linter.all false
set_option maxRecDepth 100000
set_option maxHeartbeats 4000000
namespace Go.Proofs.YtfoegolfadhmjaaGreatDoor
open Go.RowKit Go.WideShapes
theorem cell_set8{W:World}{b p i:Nat}{x u0 u1 u2 u3 u4 u5 u6 u7:Value}(h:W.cell? ⟨b,i,none⟩=some x)(hne:b≠p):((((((((W.setCell ⟨p,0,none⟩ u0).setCell ⟨p,1,none⟩ u1).setCell ⟨p,2,none⟩ u2).setCell ⟨p,3,none⟩ u3).setCell ⟨p,4,none⟩ u4).setCell ⟨p,5,none⟩ u5).setCell ⟨p,6,none⟩ u6).setCell ⟨p,7,none⟩ u7).cell? ⟨b,i,none⟩=some x:=by
 have k:Keep (fun x=>x≠p) W ((((((((W.setCell ⟨p,0,none⟩ u0).setCell ⟨p,1,none⟩ u1).setCell ⟨p,2,none⟩ u2).setCell ⟨p,3,none⟩ u3).setCell ⟨p,4,none⟩ u4).setCell ⟨p,5,none⟩ u5).setCell ⟨p,6,none⟩ u6).setCell ⟨p,7,none⟩ u7):=by
  repeat (refine Keep.setCell ?_ (.inr (by simp)) _)
  exact Keep.refl _ _
 exact k.cell h hne
theorem ofBegin_is(b no iw ow hm:Nat)(rem:List Nat)(off des:List (List UInt8))(ps:List (V×V))(cr so sd s:Value)(w:World)(hb:w.heap[b]? =some (.cells #[cr,.int .u32 (no:Int),.int .u32 (iw:Int),.int .u32 (ow:Int),.int .u32 (hm:Int),so,sd,s] 113 (0,0)))
 (hc:ChanR w cr rem) (ho:Strs w off so) (hd:Strs w des sd) (hol:off.length≤1000000) (hdl:des.length≤1000000) (hp:∀W,New w W→PropV W ps s):
 Calls Tryz.prog 49 #[.pointer (some ⟨b,0,none⟩)] w fun e w'=>∃A1 n1 c1 A2 n2 c2 A3 n3 c3 A4 n4 c4 us qs,e=.returned (.tuple #[.agg #[.slice A1 n1 c1,.int .u32 (no:Int),.int .u32 (iw:Int),.int .u32 (ow:Int),.int .u32 (hm:Int),.slice A2 n2 c2,.slice A3 n3 c3,.slice A4 n4 c4],.bool true])∧New w w'∧
  ps.Perm qs∧Sims (flat2 qs) us∧us.length=2*ps.length∧Dep (fun b=>w.heap.size≤b) w' (fun w=>U16s w rem (.slice A1 n1 c1)∧Strs w off (.slice A2 n2 c2)∧Strs w des (.slice A3 n3 c3)∧LM w us (.slice A4 n4 c4)):=by
 have kA:=(Keep.refl (fun _=>True) w).alloc (.cells #[.slice none 0 0,.int .u32 0,.int .u32 0,.int .u32 0,.int .u32 0,.slice none 0 0,.slice none 0 0,.slice none 0 0] 54)
 have hR:=blk_new w (.cells #[.slice none 0 0,.int .u32 0,.int .u32 0,.int .u32 0,.int .u32 0,.slice none 0 0,.slice none 0 0,.slice none 0 0] 54)
 have hb1:=kA.blk hb trivial
 have HCR:=Lib.hid hc
 have HSO:=Lib.hid ho
 have HSD:=Lib.hid hd
 have hcall:=(hp _ kA).pairs
 obtain⟨P,rfl⟩:∃P,cr=.pointer P:=by
  rcases hc with⟨rfl,-⟩ | ⟨p,n,rfl,-⟩
  ·exact⟨_,rfl⟩
  ·exact⟨_,rfl⟩
 obtain⟨q,rfl⟩:∃q,s=.map q:=by
  rcases hp _ kA with⟨rfl,-⟩ | ⟨p,n,m,rfl,-⟩
  ·exact⟨_,rfl⟩
  ·exact⟨_,rfl⟩
 obtain⟨A,n,c,rfl⟩:∃A n c,so=.slice A n c:=by
  obtain⟨A,c,h,-⟩:=ho
  exact⟨A,_,c,h⟩
 obtain⟨B,m,b2,rfl⟩:∃A n c,sd=.slice A n c:=by
  obtain⟨A,c,h,-⟩:=hd
  exact⟨A,_,c,h⟩
 have c7:=(blk_cell hb1 7).trans rfl
 have HC:=Lib.hid hcall
 have HB:=Lib.hid hb1
 have HR:=Lib.hid hR
 have HL:=Lib.hid (And.intro hol hdl)
 have LT:=Lib.hid (lt_blk hb)
 clear hcall hb hb1 hR hp hc ho hd hol hdl
 go_enter Tryz.func49,Tryz.ntmps49
 go_wp2_with fail
 refine HC.out.mono ?_
 rintro e w1 ⟨A4,n4,c4,us,qs,rfl,k1,hp,hs,hl,hdep⟩
 simp only [World.size_alloc]at hdep
 have hb':=k1.drew.blk HB.out trivial
 have hr':=k1.drew.blk HR.out trivial
 have hblt:b<w.heap.size:=LT.out
 have ks:=k1.size
 simp only [World.size_alloc]at ks
 have HPS:=Lib.hid (And.intro hp (And.intro hs hl))
 have HDP:=Lib.hid hdep
 have kk:New w1 w1.drew:=(Keep.refl _ _).drew
 have k01:New w w1:=kA.trans k1
 have HF:=Lib.hid (show ∀W,New w1 W→Calls Tryz.prog 76 #[.pointer P] W fun e w'=>∃A n c,e=.returned (.slice A n c)∧New W w'∧Dep (fun b=>w.heap.size+1≤b) w' (fun w=>U16s w rem (.slice A n c)) from fun W k=>(few_any rem (.pointer P) W (HCR.out.new (k01.trans k))).mono fun e w' ⟨A,n,c,h1,h2,h3⟩=>⟨A,n,c,h1,h2,h3.mono fun i _ hi=>by have:=k.size;show _≤_;omega⟩)
 have HO:=Lib.hid (show ∀W,New w1 W→Calls Tryz.prog 77 #[.slice A n c] W fun e w'=>∃A n c,e=.returned (.slice A n c)∧New W w'∧Dep (fun b=>w.heap.size+1≤b) w' (fun w=>Strs w off (.slice A n c)) from fun W k=>(symTexts_is off HL.out.1 W _ (HSO.out.keep (k01.trans k))).mono fun e w' ⟨A,n,c,h1,h2,h3⟩=>⟨A,n,c,h1,h2,h3.mono fun i _ hi=>by have:=k.size;show _≤_;omega⟩)
 have HD:=Lib.hid (show ∀W,New w1 W→Calls Tryz.prog 77 #[.slice B m b2] W fun e w'=>∃A n c,e=.returned (.slice A n c)∧New W w'∧Dep (fun b=>w.heap.size+1≤b) w' (fun w=>Strs w des (.slice A n c)) from fun W k=>(symTexts_is des HL.out.2 W _ (HSD.out.keep (k01.trans k))).mono fun e w' ⟨A,n,c,h1,h2,h3⟩=>⟨A,n,c,h1,h2,h3.mono fun i _ hi=>by have:=k.size;show _≤_;omega⟩)
 clear hp hs hl hdep
 go_wp2_with fail
 have HRR:=Lib.hid hr'
 have HBB:=Lib.hid hb'
 clear hr' hb'
 have mm:New w1 w1.drew:=kk
 clear kk
 have hS:w1.drew.cell? ⟨b,0,none⟩=some (.pointer P)∧w1.drew.cell? ⟨b,1,none⟩=some (.int .u32 (no:Int))∧w1.drew.cell? ⟨b,2,none⟩=some (.int .u32 (iw:Int))∧w1.drew.cell? ⟨b,3,none⟩=some (.int .u32 (ow:Int))∧w1.drew.cell? ⟨b,4,none⟩=some (.int .u32 (hm:Int))∧w1.drew.cell? ⟨b,5,none⟩=some (.slice A n c)∧w1.drew.cell? ⟨b,6,none⟩=some (.slice B m b2)∧w1.drew.cell? ⟨b,7,none⟩=some (.map q):=⟨(blk_cell HBB.out 0).trans rfl,(blk_cell HBB.out 1).trans rfl,(blk_cell HBB.out 2).trans rfl,(blk_cell HBB.out 3).trans rfl,(blk_cell HBB.out 4).trans rfl,(blk_cell HBB.out 5).trans rfl,(blk_cell HBB.out 6).trans rfl,(blk_cell HBB.out 7).trans rfl⟩
 go_region_held3 (fun W=>W.cell? ⟨b,0,none⟩=some (.pointer P)∧W.cell? ⟨b,1,none⟩=some (.int .u32 (no:Int))∧W.cell? ⟨b,2,none⟩=some (.int .u32 (iw:Int))∧W.cell? ⟨b,3,none⟩=some (.int .u32 (ow:Int))∧W.cell? ⟨b,4,none⟩=some (.int .u32 (hm:Int))∧W.cell? ⟨b,5,none⟩=some (.slice A n c)∧W.cell? ⟨b,6,none⟩=some (.slice B m b2)∧W.cell? ⟨b,7,none⟩=some (.map q))
  (first | with_reducible exact hS | with_reducible exact⟨cell_set8 hS.1 (Nat.ne_of_lt hblt),cell_set8 hS.2.1 (Nat.ne_of_lt hblt),cell_set8 hS.2.2.1 (Nat.ne_of_lt hblt),cell_set8 hS.2.2.2.1 (Nat.ne_of_lt hblt),cell_set8 hS.2.2.2.2.1 (Nat.ne_of_lt hblt),cell_set8 hS.2.2.2.2.2.1 (Nat.ne_of_lt hblt),cell_set8 hS.2.2.2.2.2.2.1 (Nat.ne_of_lt hblt),cell_set8 hS.2.2.2.2.2.2.2 (Nat.ne_of_lt hblt)⟩)
  (first
   | (go_at_call 76;((with_reducible refine(HF.out _ (by assumption)).mono ?_));rintro e wa ⟨A1,n1,c1,rfl,ka,dF⟩;have mm:=Keep.trans (show New w1 _ by assumption) ka;have bb:=mm.blk (b:=b) HBB.out trivial;have hS:wa.cell? ⟨b,0,none⟩=some (.pointer P)∧wa.cell? ⟨b,1,none⟩=some (.int .u32 (no:Int))∧wa.cell? ⟨b,2,none⟩=some (.int .u32 (iw:Int))∧wa.cell? ⟨b,3,none⟩=some (.int .u32 (ow:Int))∧wa.cell? ⟨b,4,none⟩=some (.int .u32 (hm:Int))∧wa.cell? ⟨b,5,none⟩=some (.slice A n c)∧wa.cell? ⟨b,6,none⟩=some (.slice B m b2)∧wa.cell? ⟨b,7,none⟩=some (.map q):=⟨(blk_cell bb 0).trans rfl,(blk_cell bb 1).trans rfl,(blk_cell bb 2).trans rfl,(blk_cell bb 3).trans rfl,(blk_cell bb 4).trans rfl,(blk_cell bb 5).trans rfl,(blk_cell bb 6).trans rfl,(blk_cell bb 7).trans rfl⟩;clear bb)
   | (go_at_call 77;((with_reducible refine(HO.out _ (by assumption)).mono ?_));rintro e wb ⟨A2,n2,c2,rfl,kb,dO⟩;have mm:=Keep.trans (show New w1 _ by assumption) kb;have bb:=mm.blk (b:=b) HBB.out trivial;have hS:wb.cell? ⟨b,0,none⟩=some (.pointer P)∧wb.cell? ⟨b,1,none⟩=some (.int .u32 (no:Int))∧wb.cell? ⟨b,2,none⟩=some (.int .u32 (iw:Int))∧wb.cell? ⟨b,3,none⟩=some (.int .u32 (ow:Int))∧wb.cell? ⟨b,4,none⟩=some (.int .u32 (hm:Int))∧wb.cell? ⟨b,5,none⟩=some (.slice A n c)∧wb.cell? ⟨b,6,none⟩=some (.slice B m b2)∧wb.cell? ⟨b,7,none⟩=some (.map q):=⟨(blk_cell bb 0).trans rfl,(blk_cell bb 1).trans rfl,(blk_cell bb 2).trans rfl,(blk_cell bb 3).trans rfl,(blk_cell bb 4).trans rfl,(blk_cell bb 5).trans rfl,(blk_cell bb 6).trans rfl,(blk_cell bb 7).trans rfl⟩;clear bb;have dF:=Dep.keep (ok':=fun _=>True) dF kb (fun _ _ _=>trivial))
   | (go_at_call 77;((with_reducible refine(HD.out _ (by assumption)).mono ?_));rintro e wc ⟨A3,n3,c3,rfl,kc,dD⟩;have mm:=Keep.trans (show New w1 _ by assumption) kc;have bb:=mm.blk (b:=b) HBB.out trivial;have hS:wc.cell? ⟨b,0,none⟩=some (.pointer P)∧wc.cell? ⟨b,1,none⟩=some (.int .u32 (no:Int))∧wc.cell? ⟨b,2,none⟩=some (.int .u32 (iw:Int))∧wc.cell? ⟨b,3,none⟩=some (.int .u32 (ow:Int))∧wc.cell? ⟨b,4,none⟩=some (.int .u32 (hm:Int))∧wc.cell? ⟨b,5,none⟩=some (.slice A n c)∧wc.cell? ⟨b,6,none⟩=some (.slice B m b2)∧wc.cell? ⟨b,7,none⟩=some (.map q):=⟨(blk_cell bb 0).trans rfl,(blk_cell bb 1).trans rfl,(blk_cell bb 2).trans rfl,(blk_cell bb 3).trans rfl,(blk_cell bb 4).trans rfl,(blk_cell bb 5).trans rfl,(blk_cell bb 6).trans rfl,(blk_cell bb 7).trans rfl⟩;clear bb;have dF:=Dep.keep (ok':=fun _=>True) dF kc (fun _ _ _=>trivial);have dO:=Dep.keep (ok':=fun _=>True) dO kc (fun _ _ _=>trivial);have rr:=mm.blk (b:=w.heap.size) HRR.out trivial;have x0:=(blk_cell rr 0).trans rfl;have F0:=blk_free rr 0;have x1:=(blk_cell rr 1).trans rfl;have F1:=blk_free rr 1;have x2:=(blk_cell rr 2).trans rfl;have F2:=blk_free rr 2;have x3:=(blk_cell rr 3).trans rfl;have F3:=blk_free rr 3;have x4:=(blk_cell rr 4).trans rfl;have F4:=blk_free rr 4;have x5:=(blk_cell rr 5).trans rfl;have F5:=blk_free rr 5;have x6:=(blk_cell rr 6).trans rfl;have F6:=blk_free rr 6;have x7:=(blk_cell rr 7).trans rfl;have F7:=blk_free rr 7;clear rr))
 go_wp2
 refine bodyPost_ret (v:=.tuple #[.agg #[.slice A1 n1 c1,.int .u32 (no:Int),.int .u32 (iw:Int),.int .u32 (ow:Int),.int .u32 (hm:Int),.slice A2 n2 c2,.slice A3 n3 c3,.slice A4 n4 c4],.bool true]) (by simp [results,Tryz.results49,go_sem,x0,x1,x2,x3,x4,x5,x6,x7]) rfl ⟨A1,n1,c1,A2,n2,c2,A3,n3,c3,A4,n4,c4,us,qs,rfl,?_,HPS.out.1,HPS.out.2.1,HPS.out.2.2,?_⟩
 ·repeat (refine Keep.setCell ?_ (Or.inl (b:=¬True) (Nat.le_refl _)) _)
  exact k01.trans mm
 ·refine Dep.mono (ok:=fun b=>w.heap.size+1≤b) ?_ (fun k _ hk=>by omega)
  refine Dep.keep (ok':=fun b=>b≠w.heap.size) (dF.and (dO.and (dD.and (HDP.out.keep mm (fun _ _ _=>trivial))))) ?_ (fun k _ hk=>by omega)
  repeat (refine Keep.setCell ?_ (Or.inr (by simp)) _)
  exact Keep.refl _ _
end Go.Proofs.YtfoegolfadhmjaaGreatDoor
