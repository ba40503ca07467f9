/- PerformBegin.Unmarshal: a begin off the buffer, in whatever form. -/
import Derived.Test.YtfoegolfadhmjaaGreatDoorZ43
import Derived.Test.YtfoegolfadhmjaaGreatDoorZ45
import Derived.Test.YtfoegolfadhmjaaGreatDoorZ46
import Derived.Test.YtfoegolfadhmjaaGreatDoorZ47
set_option linter.all false
set_option maxRecDepth 100000
set_option maxHeartbeats 40000000
namespace Go.Proofs.YtfoegolfadhmjaaGreatDoor
open Go.RowKit Go.WideShapes
structure Beg where
 rem:List Nat
 no:Nat
 iw:Nat
 ow:Nat
 hm:Nat
 off:List (List UInt8)
 des:List (List UInt8)
 props:List V
def begF(g:Beg):List (V×V):=[(mayF g.rem,nul),(.mk 4 g.no [] [] 0 [],nul),(.mk 4 g.iw [] [] 0 [],nul),(.mk 4 g.ow [] [] 0 [],nul),(.mk 4 g.hm [] [] 0 [],.mk 4 4294967295 [] [] 0 []),(symF g.off,nul),(symF g.des,nul),(mpF g.props,nul)]
structure BegN(g:Beg):Prop where
 rem:∀n∈g.rem,n<65536
 no:g.no<4294967296
 iw:g.iw<4294967296
 ow:g.ow<4294967296
 hm:g.hm<4294967296
theorem nMy_lt{l:List Nat}(h:∀n∈l,n<65536):nMy l<65536:=by
 rcases l with _ | ⟨n,l⟩
 ·show 0<65536;omega
 ·exact h n (List.mem_cons_self ..)
theorem beg_fm{W:World}{g:Beg}(hg:BegN g){d q n1 c1 n2 c2 c3 N0:Nat}{K0 K1 K2 K3:Int}{A1 A2 A3:Option Addr}{no iw ow hm:Nat}(e0:K0=kMy g.rem)(e0':N0=nMy g.rem)(en:no=g.no)(ei:iw=g.iw)(eo:ow=g.ow)(eh:hm=g.hm)(e3:K3=kM g.props.length)(eq:q=g.props.length)
 (v1:VM W (symF g.off) (.agg #[.int .i64 K1,.int .u64 0,.string ⟨#[]⟩,.slice A1 n1 c1,.int .i64 0,.slice none 0 0])) (v2:VM W (symF g.des) (.agg #[.int .i64 K2,.int .u64 0,.string ⟨#[]⟩,.slice A2 n2 c2,.int .i64 0,.slice none 0 0])) (hL:LM W g.props (.slice A3 q c3)) (hd:W.heap[d]? =some (.cells #[.int .i64 K0,.int .u64 (N0:Int),.string ⟨#[]⟩,.slice none 0 0,.int .i64 0,.slice none 0 0,.int .i64 0,.int .u64 0,.string ⟨#[]⟩,.slice none 0 0,.int .i64 0,.slice none 0 0,.int .i64 4,.int .u64 (no:Int),.string ⟨#[]⟩,.slice none 0 0,.int .i64 0,.slice none 0 0,.int .i64 0,.int .u64 0,.string ⟨#[]⟩,.slice none 0 0,.int .i64 0,.slice none 0 0,.int .i64 4,.int .u64 (iw:Int),.string ⟨#[]⟩,.slice none 0 0,.int .i64 0,.slice none 0 0,.int .i64 0,.int .u64 0,.string ⟨#[]⟩,.slice none 0 0,.int .i64 0,.slice none 0 0,.int .i64 4,.int .u64 (ow:Int),.string ⟨#[]⟩,.slice none 0 0,.int .i64 0,.slice none 0 0,.int .i64 0,.int .u64 0,.string ⟨#[]⟩,.slice none 0 0,.int .i64 0,.slice none 0 0,.int .i64 4,.int .u64 (hm:Int),.string ⟨#[]⟩,.slice none 0 0,.int .i64 0,.slice none 0 0,.int .i64 4,.int .u64 4294967295,.string ⟨#[]⟩,.slice none 0 0,.int .i64 0,.slice none 0 0,.int .i64 K1,.int .u64 0,.string ⟨#[]⟩,.slice A1 n1 c1,.int .i64 0,.slice none 0 0,.int .i64 0,.int .u64 0,.string ⟨#[]⟩,.slice none 0 0,.int .i64 0,.slice none 0 0,.int .i64 K2,.int .u64 0,.string ⟨#[]⟩,.slice A2 n2 c2,.int .i64 0,.slice none 0 0,.int .i64 0,.int .u64 0,.string ⟨#[]⟩,.slice none 0 0,.int .i64 0,.slice none 0 0,.int .i64 K3,.int .u64 0,.string ⟨#[]⟩,.slice A3 q c3,.int .i64 0,.slice none 0 0,.int .i64 0,.int .u64 0,.string ⟨#[]⟩,.slice none 0 0,.int .i64 0,.slice none 0 0] 81 (0,0))):FM W (begF g) (.slice (some ⟨d,0,none⟩) 8 8):=by
 refine⟨(#[.int .i64 K0,.int .u64 (N0:Int),.string ⟨#[]⟩,.slice none 0 0,.int .i64 0,.slice none 0 0,.int .i64 0,.int .u64 0,.string ⟨#[]⟩,.slice none 0 0,.int .i64 0,.slice none 0 0,.int .i64 4,.int .u64 (no:Int),.string ⟨#[]⟩,.slice none 0 0,.int .i64 0,.slice none 0 0,.int .i64 0,.int .u64 0,.string ⟨#[]⟩,.slice none 0 0,.int .i64 0,.slice none 0 0,.int .i64 4,.int .u64 (iw:Int),.string ⟨#[]⟩,.slice none 0 0,.int .i64 0,.slice none 0 0,.int .i64 0,.int .u64 0,.string ⟨#[]⟩,.slice none 0 0,.int .i64 0,.slice none 0 0,.int .i64 4,.int .u64 (ow:Int),.string ⟨#[]⟩,.slice none 0 0,.int .i64 0,.slice none 0 0,.int .i64 0,.int .u64 0,.string ⟨#[]⟩,.slice none 0 0,.int .i64 0,.slice none 0 0,.int .i64 4,.int .u64 (hm:Int),.string ⟨#[]⟩,.slice none 0 0,.int .i64 0,.slice none 0 0,.int .i64 4,.int .u64 4294967295,.string ⟨#[]⟩,.slice none 0 0,.int .i64 0,.slice none 0 0,.int .i64 K1,.int .u64 0,.string ⟨#[]⟩,.slice A1 n1 c1,.int .i64 0,.slice none 0 0,.int .i64 0,.int .u64 0,.string ⟨#[]⟩,.slice none 0 0,.int .i64 0,.slice none 0 0,.int .i64 K2,.int .u64 0,.string ⟨#[]⟩,.slice A2 n2 c2,.int .i64 0,.slice none 0 0,.int .i64 0,.int .u64 0,.string ⟨#[]⟩,.slice none 0 0,.int .i64 0,.slice none 0 0,.int .i64 K3,.int .u64 0,.string ⟨#[]⟩,.slice A3 q c3,.int .i64 0,.slice none 0 0,.int .i64 0,.int .u64 0,.string ⟨#[]⟩,.slice none 0 0,.int .i64 0,.slice none 0 0]:Array Value).toList,⟨_,8,rfl,by show 8≤8;omega,by unfold maxLen;omega,rfl,fun _=>⟨d,0,_,rfl,hd,fun q hq=>?_⟩⟩,?_⟩
 ·rw [Nat.zero_add,Array.getElem?_toList]
 ·have hr:=nMy_lt hg.rem
  have h1:=hg.no
  have h2:=hg.iw
  have h3:=hg.ow
  have h4:=hg.hm
  have e:flat2 (begF g)=[.mk K0 N0 [] [] 0 [],.mk 0 0 [] [] 0 [],.mk 4 no [] [] 0 [],.mk 0 0 [] [] 0 [],.mk 4 iw [] [] 0 [],.mk 0 0 [] [] 0 [],.mk 4 ow [] [] 0 [],.mk 0 0 [] [] 0 [],.mk 4 hm [] [] 0 [],.mk 4 4294967295 [] [] 0 [],symF g.off,.mk 0 0 [] [] 0 [],symF g.des,.mk 0 0 [] [] 0 [],.mk K3 0 [] g.props 0 [],.mk 0 0 [] [] 0 []]:=by
   unfold begF
   rw [mayF_eq,mpF_eq,e0,e0',en,ei,eo,eh,e3]
   rfl
  rw [e]
  exact mem_mk (by omega) .nil (mem_mk (by omega) .nil (mem_mk (by omega) .nil (mem_mk (by omega) .nil (mem_mk (by omega) .nil (mem_mk (by omega) .nil (mem_mk (by omega) .nil (mem_mk (by omega) .nil (mem_mk (by omega) .nil (mem_mk (by omega) .nil (mem_vm v1 (mem_mk (by omega) .nil (mem_vm v2 (mem_mk (by omega) .nil (mem_mk (by omega) hL (mem_mk (by omega) .nil .nil)))))))))))))))
theorem cell_set2{W:World}{b p i:Nat}{o:Obj}{x u v:Value}(h:W.cell? ⟨b,i,none⟩=some x)(hne:b≠p):(((W.alloc o).setCell ⟨p,0,none⟩ u).setCell ⟨p,1,none⟩ v).cell? ⟨b,i,none⟩=some x:=
 ((((Keep.refl (fun x=>x≠p) W).alloc o).setCell (p:=⟨p,0,none⟩) (.inr (by simp)) u).setCell (p:=⟨p,1,none⟩) (.inr (by simp)) v).cell h hne
theorem beginOf_is(g:Beg)(hg:BegN g)(ho:g.off.length≤2147483647)(hds:g.des.length≤2147483647)(w:World)(sr so sd sp:Value)(hr0:U16s w g.rem sr)(hso:Strs w g.off so)(hsd:Strs w g.des sd)(hsp:LM w g.props sp):
 Calls Tryz.prog 20 #[.agg #[sr,.int .u32 (g.no:Int),.int .u32 (g.iw:Int),.int .u32 (g.ow:Int),.int .u32 (g.hm:Int),so,sd,sp]] w fun e w'=>∃d,e=.returned (.agg #[.int .u64 17,.slice (some ⟨d,0,none⟩) 8 8])∧New w w'∧FM w' (begF g) (.slice (some ⟨d,0,none⟩) 8 8):=by
 have HMY:=Lib.hid (fun W (k:New w W)=>maybe_is g.rem hg.rem W sr (hr0.keep k))
 have HSO:=Lib.hid (fun W (k:New w W)=>symbols_is g.off ho W so (hso.keep k))
 have HSD:=Lib.hid (fun W (k:New w W)=>symbols_is g.des hds W sd (hsd.keep k))
 obtain⟨C,e0,rfl,-,-⟩:=hsp.shape
 obtain⟨R,rc,rfl,-⟩:=hr0
 obtain⟨A,c,rfl,-⟩:=hso
 obtain⟨B,b,rfl,-⟩:=hsd
 have HSP:=Lib.hid hsp
 obtain⟨rn,hrn⟩:∃x,x=g.rem.length:=⟨_,rfl⟩
 obtain⟨n,hn⟩:∃x,x=g.off.length:=⟨_,rfl⟩
 obtain⟨m,hm0⟩:∃x,x=g.des.length:=⟨_,rfl⟩
 obtain⟨q,hq⟩:∃x,x=g.props.length:=⟨_,rfl⟩
 obtain⟨no,en⟩:∃x,x=g.no:=⟨_,rfl⟩
 obtain⟨iw,ei⟩:∃x,x=g.iw:=⟨_,rfl⟩
 obtain⟨ow,eo⟩:∃x,x=g.ow:=⟨_,rfl⟩
 obtain⟨hm,eh⟩:∃x,x=g.hm:=⟨_,rfl⟩
 obtain⟨K0,hK0⟩:∃x,x=kMy g.rem:=⟨_,rfl⟩
 obtain⟨N0,hN0⟩:∃x,x=nMy g.rem:=⟨_,rfl⟩
 obtain⟨K1,hK1⟩:∃x,x=kS g.off:=⟨_,rfl⟩
 obtain⟨K2,hK2⟩:∃x,x=kS g.des:=⟨_,rfl⟩
 rw [←hrn,←hK0,←hN0]at HMY
 rw [←hn,←hK1]at HSO
 rw [←hm0,←hK2]at HSD
 rw [←hq]at HSP
 rw [←hrn,←hn,←hm0,←hq,←en,←ei,←eo,←eh]
 obtain⟨K3,hK3⟩:∃x,x=kM q:=⟨_,rfl⟩
 have HMF:=Lib.hid (fun W=>mapField_is C q e0 W)
 rw [←hK3]at HMF
 have l1:=hg.no
 have l2:=hg.iw
 have l3:=hg.ow
 have l4:=hg.hm
 have u1:=u64n (n:=no) (by omega)
 have u2:=u64n (n:=iw) (by omega)
 have u3:=u64n (n:=ow) (by omega)
 have u4:=u64n (n:=hm) (by omega)
 have HEQ:=Lib.hid (And.intro hK0 (And.intro hN0 (And.intro en (And.intro ei (And.intro eo (And.intro eh (And.intro (show K3=kM g.props.length by rw [hK3,hq]) hq)))))))
 have HG:=Lib.hid hg
 have HDF:=Lib.hid (fun W=>(show Calls Tryz.prog 51 #[.int .i64 4,.int .u64 (hm:Int),.int .u64 4294967295] W fun e w'=>e=.returned (.agg #[.int .i64 4,.int .u64 (hm:Int),.string ⟨#[]⟩,.slice none 0 0,.int .i64 0,.slice none 0 0,.int .i64 4,.int .u64 4294967295,.string ⟨#[]⟩,.slice none 0 0,.int .i64 0,.slice none 0 0])∧New W w' from defaultField_is 4 hm 4294967295 W))
 have k0:New w (((w.alloc (.cells #[.slice R rn rc,.int .u32 (no:Int),.int .u32 (iw:Int),.int .u32 (ow:Int),.int .u32 (hm:Int),.slice A n c,.slice B m b,.slice C q e0] 54)).alloc (.cells #[.int .u64 0,.slice none 0 0] 33)).drew):=(((Keep.refl (fun _=>True) w).alloc (.cells #[.slice R rn rc,.int .u32 (no:Int),.int .u32 (iw:Int),.int .u32 (ow:Int),.int .u32 (hm:Int),.slice A n c,.slice B m b,.slice C q e0] 54)).alloc (.cells #[.int .u64 0,.slice none 0 0] 33)).drew
 have hb:=blk_alloc (blk_new w (.cells #[.slice R rn rc,.int .u32 (no:Int),.int .u32 (iw:Int),.int .u32 (ow:Int),.int .u32 (hm:Int),.slice A n c,.slice B m b,.slice C q e0] 54)) (.cells #[.int .u64 0,.slice none 0 0] 33)
 have hr:=blk_new (w.alloc (.cells #[.slice R rn rc,.int .u32 (no:Int),.int .u32 (iw:Int),.int .u32 (ow:Int),.int .u32 (hm:Int),.slice A n c,.slice B m b,.slice C q e0] 54)) (.cells #[.int .u64 0,.slice none 0 0] 33)
 simp only [World.size_alloc]at hr
 have hb':(((w.alloc (.cells #[.slice R rn rc,.int .u32 (no:Int),.int .u32 (iw:Int),.int .u32 (ow:Int),.int .u32 (hm:Int),.slice A n c,.slice B m b,.slice C q e0] 54)).alloc (.cells #[.int .u64 0,.slice none 0 0] 33)).drew).heap[w.heap.size]? =some (.cells #[.slice R rn rc,.int .u32 (no:Int),.int .u32 (iw:Int),.int .u32 (ow:Int),.int .u32 (hm:Int),.slice A n c,.slice B m b,.slice C q e0] 54 (0,0)):=hb
 have hr':(((w.alloc (.cells #[.slice R rn rc,.int .u32 (no:Int),.int .u32 (iw:Int),.int .u32 (ow:Int),.int .u32 (hm:Int),.slice A n c,.slice B m b,.slice C q e0] 54)).alloc (.cells #[.int .u64 0,.slice none 0 0] 33)).drew).heap[w.heap.size+1]? =some (.cells #[.int .u64 0,.slice none 0 0] 33 (0,0)):=hr
 clear hb hr hrn hn hm0 hq en ei eo eh hK0 hN0 hK1 hK2 hK3 l1 l2 l3 l4 hg ho hds hsp
 go_enter Tryz.func20,Tryz.ntmps20
 go_wp2_with fail
 go_region_held3 (fun W=>W.cell? ⟨w.heap.size,0,none⟩=some (.slice R rn rc)∧W.cell? ⟨w.heap.size,1,none⟩=some (.int .u32 (no:Int))∧W.cell? ⟨w.heap.size,2,none⟩=some (.int .u32 (iw:Int))∧W.cell? ⟨w.heap.size,3,none⟩=some (.int .u32 (ow:Int))∧W.cell? ⟨w.heap.size,4,none⟩=some (.int .u32 (hm:Int))∧W.cell? ⟨w.heap.size,5,none⟩=some (.slice A n c)∧W.cell? ⟨w.heap.size,6,none⟩=some (.slice B m b)∧W.cell? ⟨w.heap.size,7,none⟩=some (.slice C q e0))
  (first | exact hS | exact⟨(blk_cell hb' 0).trans rfl,(blk_cell hb' 1).trans rfl,(blk_cell hb' 2).trans rfl,(blk_cell hb' 3).trans rfl,(blk_cell hb' 4).trans rfl,(blk_cell hb' 5).trans rfl,(blk_cell hb' 6).trans rfl,(blk_cell hb' 7).trans rfl⟩ | exact⟨cell_alloc hS.1 _,cell_alloc hS.2.1 _,cell_alloc hS.2.2.1 _,cell_alloc hS.2.2.2.1 _,cell_alloc hS.2.2.2.2.1 _,cell_alloc hS.2.2.2.2.2.1 _,cell_alloc hS.2.2.2.2.2.2.1 _,cell_alloc hS.2.2.2.2.2.2.2 _⟩ | exact⟨cell_set2 hS.1 (by omega),cell_set2 hS.2.1 (by omega),cell_set2 hS.2.2.1 (by omega),cell_set2 hS.2.2.2.1 (by omega),cell_set2 hS.2.2.2.2.1 (by omega),cell_set2 hS.2.2.2.2.2.1 (by omega),cell_set2 hS.2.2.2.2.2.2.1 (by omega),cell_set2 hS.2.2.2.2.2.2.2 (by omega)⟩)
  (first
   | (go_at_call 50;(with_reducible refine(HMY.out _ (by assumption)).mono ?_);rintro e wa ⟨rfl,ka⟩;have hb':=ka.blk (b:=w.heap.size) (by assumption) trivial;have hr':=ka.blk (b:=w.heap.size+1) (by assumption) trivial;have hS:wa.cell? ⟨w.heap.size,0,none⟩=some (.slice R rn rc)∧wa.cell? ⟨w.heap.size,1,none⟩=some (.int .u32 (no:Int))∧wa.cell? ⟨w.heap.size,2,none⟩=some (.int .u32 (iw:Int))∧wa.cell? ⟨w.heap.size,3,none⟩=some (.int .u32 (ow:Int))∧wa.cell? ⟨w.heap.size,4,none⟩=some (.int .u32 (hm:Int))∧wa.cell? ⟨w.heap.size,5,none⟩=some (.slice A n c)∧wa.cell? ⟨w.heap.size,6,none⟩=some (.slice B m b)∧wa.cell? ⟨w.heap.size,7,none⟩=some (.slice C q e0):=⟨(blk_cell hb' 0).trans rfl,(blk_cell hb' 1).trans rfl,(blk_cell hb' 2).trans rfl,(blk_cell hb' 3).trans rfl,(blk_cell hb' 4).trans rfl,(blk_cell hb' 5).trans rfl,(blk_cell hb' 6).trans rfl,(blk_cell hb' 7).trans rfl⟩;have x0:=fun o=>cell_alloc (show wa.cell? ⟨w.heap.size+1,0,none⟩=some (.int .u64 0) from(blk_cell hr' 0).trans rfl) o;have x1:=fun o=>cell_alloc (show wa.cell? ⟨w.heap.size+1,1,none⟩=some (.slice none 0 0) from(blk_cell hr' 1).trans rfl) o;have y0:=fun o=>blk_free (blk_alloc hr' o) 0;have y1:=fun o=>blk_free (blk_alloc hr' o) 1;have kk:New w wa:=Keep.trans (show New w _ by assumption) ka;(try have v1:=VM.keep v1 ka);(try have v2:=VM.keep v2 ka))
   | (go_at_call 28;(with_reducible refine(ofNumber_is 4 no _).mono ?_);rintro e wb ⟨rfl,kb⟩;have hb':=kb.blk (b:=w.heap.size) (by assumption) trivial;have hr':=kb.blk (b:=w.heap.size+1) (by assumption) trivial;have hS:wb.cell? ⟨w.heap.size,0,none⟩=some (.slice R rn rc)∧wb.cell? ⟨w.heap.size,1,none⟩=some (.int .u32 (no:Int))∧wb.cell? ⟨w.heap.size,2,none⟩=some (.int .u32 (iw:Int))∧wb.cell? ⟨w.heap.size,3,none⟩=some (.int .u32 (ow:Int))∧wb.cell? ⟨w.heap.size,4,none⟩=some (.int .u32 (hm:Int))∧wb.cell? ⟨w.heap.size,5,none⟩=some (.slice A n c)∧wb.cell? ⟨w.heap.size,6,none⟩=some (.slice B m b)∧wb.cell? ⟨w.heap.size,7,none⟩=some (.slice C q e0):=⟨(blk_cell hb' 0).trans rfl,(blk_cell hb' 1).trans rfl,(blk_cell hb' 2).trans rfl,(blk_cell hb' 3).trans rfl,(blk_cell hb' 4).trans rfl,(blk_cell hb' 5).trans rfl,(blk_cell hb' 6).trans rfl,(blk_cell hb' 7).trans rfl⟩;have x0:=fun o=>cell_alloc (show wb.cell? ⟨w.heap.size+1,0,none⟩=some (.int .u64 0) from(blk_cell hr' 0).trans rfl) o;have x1:=fun o=>cell_alloc (show wb.cell? ⟨w.heap.size+1,1,none⟩=some (.slice none 0 0) from(blk_cell hr' 1).trans rfl) o;have y0:=fun o=>blk_free (blk_alloc hr' o) 0;have y1:=fun o=>blk_free (blk_alloc hr' o) 1;have kk:New w wb:=Keep.trans (show New w _ by assumption) kb;(try have v1:=VM.keep v1 kb);(try have v2:=VM.keep v2 kb))
   | (go_at_call 28;(with_reducible refine(ofNumber_is 4 iw _).mono ?_);rintro e wc ⟨rfl,kc⟩;have hb':=kc.blk (b:=w.heap.size) (by assumption) trivial;have hr':=kc.blk (b:=w.heap.size+1) (by assumption) trivial;have hS:wc.cell? ⟨w.heap.size,0,none⟩=some (.slice R rn rc)∧wc.cell? ⟨w.heap.size,1,none⟩=some (.int .u32 (no:Int))∧wc.cell? ⟨w.heap.size,2,none⟩=some (.int .u32 (iw:Int))∧wc.cell? ⟨w.heap.size,3,none⟩=some (.int .u32 (ow:Int))∧wc.cell? ⟨w.heap.size,4,none⟩=some (.int .u32 (hm:Int))∧wc.cell? ⟨w.heap.size,5,none⟩=some (.slice A n c)∧wc.cell? ⟨w.heap.size,6,none⟩=some (.slice B m b)∧wc.cell? ⟨w.heap.size,7,none⟩=some (.slice C q e0):=⟨(blk_cell hb' 0).trans rfl,(blk_cell hb' 1).trans rfl,(blk_cell hb' 2).trans rfl,(blk_cell hb' 3).trans rfl,(blk_cell hb' 4).trans rfl,(blk_cell hb' 5).trans rfl,(blk_cell hb' 6).trans rfl,(blk_cell hb' 7).trans rfl⟩;have x0:=fun o=>cell_alloc (show wc.cell? ⟨w.heap.size+1,0,none⟩=some (.int .u64 0) from(blk_cell hr' 0).trans rfl) o;have x1:=fun o=>cell_alloc (show wc.cell? ⟨w.heap.size+1,1,none⟩=some (.slice none 0 0) from(blk_cell hr' 1).trans rfl) o;have y0:=fun o=>blk_free (blk_alloc hr' o) 0;have y1:=fun o=>blk_free (blk_alloc hr' o) 1;have kk:New w wc:=Keep.trans (show New w _ by assumption) kc;(try have v1:=VM.keep v1 kc);(try have v2:=VM.keep v2 kc))
   | (go_at_call 28;(with_reducible refine(ofNumber_is 4 ow _).mono ?_);rintro e wd ⟨rfl,kd⟩;have hb':=kd.blk (b:=w.heap.size) (by assumption) trivial;have hr':=kd.blk (b:=w.heap.size+1) (by assumption) trivial;have hS:wd.cell? ⟨w.heap.size,0,none⟩=some (.slice R rn rc)∧wd.cell? ⟨w.heap.size,1,none⟩=some (.int .u32 (no:Int))∧wd.cell? ⟨w.heap.size,2,none⟩=some (.int .u32 (iw:Int))∧wd.cell? ⟨w.heap.size,3,none⟩=some (.int .u32 (ow:Int))∧wd.cell? ⟨w.heap.size,4,none⟩=some (.int .u32 (hm:Int))∧wd.cell? ⟨w.heap.size,5,none⟩=some (.slice A n c)∧wd.cell? ⟨w.heap.size,6,none⟩=some (.slice B m b)∧wd.cell? ⟨w.heap.size,7,none⟩=some (.slice C q e0):=⟨(blk_cell hb' 0).trans rfl,(blk_cell hb' 1).trans rfl,(blk_cell hb' 2).trans rfl,(blk_cell hb' 3).trans rfl,(blk_cell hb' 4).trans rfl,(blk_cell hb' 5).trans rfl,(blk_cell hb' 6).trans rfl,(blk_cell hb' 7).trans rfl⟩;have x0:=fun o=>cell_alloc (show wd.cell? ⟨w.heap.size+1,0,none⟩=some (.int .u64 0) from(blk_cell hr' 0).trans rfl) o;have x1:=fun o=>cell_alloc (show wd.cell? ⟨w.heap.size+1,1,none⟩=some (.slice none 0 0) from(blk_cell hr' 1).trans rfl) o;have y0:=fun o=>blk_free (blk_alloc hr' o) 0;have y1:=fun o=>blk_free (blk_alloc hr' o) 1;have kk:New w wd:=Keep.trans (show New w _ by assumption) kd;(try have v1:=VM.keep v1 kd);(try have v2:=VM.keep v2 kd))
   | (go_at_call 51;(with_reducible refine(HDF.out _).mono ?_);rintro e we ⟨rfl,ke⟩;have hb':=ke.blk (b:=w.heap.size) (by assumption) trivial;have hr':=ke.blk (b:=w.heap.size+1) (by assumption) trivial;have hS:we.cell? ⟨w.heap.size,0,none⟩=some (.slice R rn rc)∧we.cell? ⟨w.heap.size,1,none⟩=some (.int .u32 (no:Int))∧we.cell? ⟨w.heap.size,2,none⟩=some (.int .u32 (iw:Int))∧we.cell? ⟨w.heap.size,3,none⟩=some (.int .u32 (ow:Int))∧we.cell? ⟨w.heap.size,4,none⟩=some (.int .u32 (hm:Int))∧we.cell? ⟨w.heap.size,5,none⟩=some (.slice A n c)∧we.cell? ⟨w.heap.size,6,none⟩=some (.slice B m b)∧we.cell? ⟨w.heap.size,7,none⟩=some (.slice C q e0):=⟨(blk_cell hb' 0).trans rfl,(blk_cell hb' 1).trans rfl,(blk_cell hb' 2).trans rfl,(blk_cell hb' 3).trans rfl,(blk_cell hb' 4).trans rfl,(blk_cell hb' 5).trans rfl,(blk_cell hb' 6).trans rfl,(blk_cell hb' 7).trans rfl⟩;have x0:=fun o=>cell_alloc (show we.cell? ⟨w.heap.size+1,0,none⟩=some (.int .u64 0) from(blk_cell hr' 0).trans rfl) o;have x1:=fun o=>cell_alloc (show we.cell? ⟨w.heap.size+1,1,none⟩=some (.slice none 0 0) from(blk_cell hr' 1).trans rfl) o;have y0:=fun o=>blk_free (blk_alloc hr' o) 0;have y1:=fun o=>blk_free (blk_alloc hr' o) 1;have kk:New w we:=Keep.trans (show New w _ by assumption) ke;(try have v1:=VM.keep v1 ke);(try have v2:=VM.keep v2 ke))
   | (go_at_call 52;(with_reducible refine(HSO.out _ (by assumption)).mono ?_);rintro e wf ⟨A1,n1,c1,rfl,kf,v1⟩;have hb':=kf.blk (b:=w.heap.size) (by assumption) trivial;have hr':=kf.blk (b:=w.heap.size+1) (by assumption) trivial;have hS:wf.cell? ⟨w.heap.size,0,none⟩=some (.slice R rn rc)∧wf.cell? ⟨w.heap.size,1,none⟩=some (.int .u32 (no:Int))∧wf.cell? ⟨w.heap.size,2,none⟩=some (.int .u32 (iw:Int))∧wf.cell? ⟨w.heap.size,3,none⟩=some (.int .u32 (ow:Int))∧wf.cell? ⟨w.heap.size,4,none⟩=some (.int .u32 (hm:Int))∧wf.cell? ⟨w.heap.size,5,none⟩=some (.slice A n c)∧wf.cell? ⟨w.heap.size,6,none⟩=some (.slice B m b)∧wf.cell? ⟨w.heap.size,7,none⟩=some (.slice C q e0):=⟨(blk_cell hb' 0).trans rfl,(blk_cell hb' 1).trans rfl,(blk_cell hb' 2).trans rfl,(blk_cell hb' 3).trans rfl,(blk_cell hb' 4).trans rfl,(blk_cell hb' 5).trans rfl,(blk_cell hb' 6).trans rfl,(blk_cell hb' 7).trans rfl⟩;have x0:=fun o=>cell_alloc (show wf.cell? ⟨w.heap.size+1,0,none⟩=some (.int .u64 0) from(blk_cell hr' 0).trans rfl) o;have x1:=fun o=>cell_alloc (show wf.cell? ⟨w.heap.size+1,1,none⟩=some (.slice none 0 0) from(blk_cell hr' 1).trans rfl) o;have y0:=fun o=>blk_free (blk_alloc hr' o) 0;have y1:=fun o=>blk_free (blk_alloc hr' o) 1;have kk:New w wf:=Keep.trans (show New w _ by assumption) kf;(try have v1:=VM.keep v1 kf);(try have v2:=VM.keep v2 kf))
   | (go_at_call 52;(with_reducible refine(HSD.out _ (by assumption)).mono ?_);rintro e wg ⟨A2,n2,c2,rfl,kg,v2⟩;have hb':=kg.blk (b:=w.heap.size) (by assumption) trivial;have hr':=kg.blk (b:=w.heap.size+1) (by assumption) trivial;have hS:wg.cell? ⟨w.heap.size,0,none⟩=some (.slice R rn rc)∧wg.cell? ⟨w.heap.size,1,none⟩=some (.int .u32 (no:Int))∧wg.cell? ⟨w.heap.size,2,none⟩=some (.int .u32 (iw:Int))∧wg.cell? ⟨w.heap.size,3,none⟩=some (.int .u32 (ow:Int))∧wg.cell? ⟨w.heap.size,4,none⟩=some (.int .u32 (hm:Int))∧wg.cell? ⟨w.heap.size,5,none⟩=some (.slice A n c)∧wg.cell? ⟨w.heap.size,6,none⟩=some (.slice B m b)∧wg.cell? ⟨w.heap.size,7,none⟩=some (.slice C q e0):=⟨(blk_cell hb' 0).trans rfl,(blk_cell hb' 1).trans rfl,(blk_cell hb' 2).trans rfl,(blk_cell hb' 3).trans rfl,(blk_cell hb' 4).trans rfl,(blk_cell hb' 5).trans rfl,(blk_cell hb' 6).trans rfl,(blk_cell hb' 7).trans rfl⟩;have x0:=fun o=>cell_alloc (show wg.cell? ⟨w.heap.size+1,0,none⟩=some (.int .u64 0) from(blk_cell hr' 0).trans rfl) o;have x1:=fun o=>cell_alloc (show wg.cell? ⟨w.heap.size+1,1,none⟩=some (.slice none 0 0) from(blk_cell hr' 1).trans rfl) o;have y0:=fun o=>blk_free (blk_alloc hr' o) 0;have y1:=fun o=>blk_free (blk_alloc hr' o) 1;have kk:New w wg:=Keep.trans (show New w _ by assumption) kg;(try have v1:=VM.keep v1 kg);(try have v2:=VM.keep v2 kg))
   | (go_at_call 44;(with_reducible refine(HMF.out _).mono ?_);rintro e wh ⟨A3,c3,hA3,rfl,kh⟩;have hb':=kh.blk (b:=w.heap.size) (by assumption) trivial;have hr':=kh.blk (b:=w.heap.size+1) (by assumption) trivial;have hS:wh.cell? ⟨w.heap.size,0,none⟩=some (.slice R rn rc)∧wh.cell? ⟨w.heap.size,1,none⟩=some (.int .u32 (no:Int))∧wh.cell? ⟨w.heap.size,2,none⟩=some (.int .u32 (iw:Int))∧wh.cell? ⟨w.heap.size,3,none⟩=some (.int .u32 (ow:Int))∧wh.cell? ⟨w.heap.size,4,none⟩=some (.int .u32 (hm:Int))∧wh.cell? ⟨w.heap.size,5,none⟩=some (.slice A n c)∧wh.cell? ⟨w.heap.size,6,none⟩=some (.slice B m b)∧wh.cell? ⟨w.heap.size,7,none⟩=some (.slice C q e0):=⟨(blk_cell hb' 0).trans rfl,(blk_cell hb' 1).trans rfl,(blk_cell hb' 2).trans rfl,(blk_cell hb' 3).trans rfl,(blk_cell hb' 4).trans rfl,(blk_cell hb' 5).trans rfl,(blk_cell hb' 6).trans rfl,(blk_cell hb' 7).trans rfl⟩;have x0:=fun o=>cell_alloc (show wh.cell? ⟨w.heap.size+1,0,none⟩=some (.int .u64 0) from(blk_cell hr' 0).trans rfl) o;have x1:=fun o=>cell_alloc (show wh.cell? ⟨w.heap.size+1,1,none⟩=some (.slice none 0 0) from(blk_cell hr' 1).trans rfl) o;have y0:=fun o=>blk_free (blk_alloc hr' o) 0;have y1:=fun o=>blk_free (blk_alloc hr' o) 1;have kk:New w wh:=Keep.trans (show New w _ by assumption) kh;(try have v1:=VM.keep v1 kh);(try have v2:=VM.keep v2 kh);have HA3:=Lib.hid hA3;clear hA3))
 all_goals
  have ek:=kk.size
  have e1:w.heap.size+1<_:=lt_blk hr'
  have HV1:=Lib.hid v1
  have HV2:=Lib.hid v2
  clear v1 v2
  go_wp2
  refine bodyPost_ret (v:=.agg #[.int .u64 17,.slice (some ⟨_,0,none⟩) 8 8]) (by simp [results,Tryz.results20,go_sem,x0,x1];rfl) rfl ⟨_,rfl,?_,?_⟩
  ·repeat (refine Keep.setCell ?_ (Or.inl (b:=¬True) (by simp)) _)
   exact kk.alloc _
  ·obtain⟨q1,q2,q3,q4,q5,q6,q7,q8⟩:=HEQ.out
   have key1:∀(o:Obj) (W:World),Keep (fun b=>b≠w.heap.size+1) (wh.alloc o) W→VM W (symF g.off) (.agg #[.int .i64 K1,.int .u64 0,.string ⟨#[]⟩,.slice A1 n1 c1,.int .i64 0,.slice none 0 0]):=fun o W kx=>VM.keepN (f:=w.heap.size+1) (blk_alloc hr' o) (by decide) kx (HV1.out.keep ((Keep.refl (fun _=>True) _).alloc o))
   have key2:∀(o:Obj) (W:World),Keep (fun b=>b≠w.heap.size+1) (wh.alloc o) W→VM W (symF g.des) (.agg #[.int .i64 K2,.int .u64 0,.string ⟨#[]⟩,.slice A2 n2 c2,.int .i64 0,.slice none 0 0]):=fun o W kx=>VM.keepN (f:=w.heap.size+1) (blk_alloc hr' o) (by decide) kx (HV2.out.keep ((Keep.refl (fun _=>True) _).alloc o))
   have hX:∀W,New w W→LM W g.props (.slice A3 q c3):=fun W k=>(HSP.out.mps2 q8 HA3.out).keep k
   refine beg_fm HG.out q1 q2 q3 q4 q5 q6 q7 q8 (key1 ?o _ ?k) (key2 ?o _ ?k2) (hX _ ?k3) ?hd
   case k=>
    repeat (refine Keep.setCell ?_ (Or.inr (by simp)) _)
    exact Keep.refl _ _
   case k2=>
    repeat (refine Keep.setCell ?_ (Or.inr (by simp)) _)
    exact Keep.refl _ _
   case k3=>
    repeat (refine Keep.setCell ?_ (Or.inl (b:=¬True) (by simp)) _)
    exact kk.alloc _
   case hd=>refine blk_far (blk_far (blk_new _ _) (p:=⟨w.heap.size+1,0,none⟩) (Nat.ne_of_gt e1) _) (p:=⟨w.heap.size+1,1,none⟩) (Nat.ne_of_gt e1) _
def begG(g:Beg)(ps:List (V×V))(j:Nat)(W:World)(c:Value):Prop:=
 match j with
 | 0=>ChanR W c g.rem
 | 1=>c=.int .u32 (g.no:Int)
 | 2=>c=.int .u32 (g.iw:Int)
 | 3=>c=.int .u32 (g.ow:Int)
 | 4=>c=.int .u32 (g.hm:Int)
 | 5=>Strs W g.off c
 | 6=>Strs W g.des c
 | _=>InfoD (fun _=>True) W ps c
def beg0(j:Nat):Value:=
 match j with
 | 0=>.pointer none
 | 1 | 2 | 3 | 4=>.int .u32 0
 | 5 | 6=>.slice none 0 0
 | _=>.map none
def begT(j:Nat):TypeId:=
 match j with
 | 0=>176
 | 1 | 2 | 3 | 4=>125
 | 5 | 6=>154
 | _=>155
def begP(b j:Nat):Value:=
 match j with
 | 0=>.agg #[.pointer (some ⟨b,0,none⟩)]
 | j=>.pointer (some ⟨b,j,none⟩)
def begN(q j:Nat):Value:=
 match j with
 | 1=>.func (.func 71) #[] #[]
 | 2=>.func (.func 72) #[] #[]
 | 3=>.func (.func 73) #[] #[]
 | 4=>.func (.func 74) #[] #[.pointer (some ⟨q,0,none⟩)]
 | _=>.nilFunc
def begC(b q:Nat):Array Value:=#[.iface (begT 0) (begP b 0),begN q 0,.iface (begT 1) (begP b 1),begN q 1,.iface (begT 2) (begP b 2),begN q 2,.iface (begT 3) (begP b 3),begN q 3,.iface (begT 4) (begP b 4),begN q 4,.iface (begT 5) (begP b 5),begN q 5,.iface (begT 6) (begP b 6),begN q 6,.iface (begT 7) (begP b 7),begN q 7]
def begZ:Array Value:=#[.pointer none,.int .u32 0,.int .u32 0,.int .u32 0,.int .u32 0,.slice none 0 0,.slice none 0 0,.map none]
theorem beg_cells{w:World}{b q s:Nat}(h:w.heap[s]? =some (.cells (begC b q) 130 (0,0))):
 ∀i,i<8→w.cell? ⟨s,i*2,none⟩=some (.iface (begT i) (begP b i))∧w.cell? ⟨s,i*2+1,none⟩=some (begN q i):=by
 intro i hi
 rw [blk_cell h,blk_cell h]
 match i,hi with
 | 0,_=>exact⟨rfl,rfl⟩
 | 1,_=>exact⟨rfl,rfl⟩
 | 2,_=>exact⟨rfl,rfl⟩
 | 3,_=>exact⟨rfl,rfl⟩
 | 4,_=>exact⟨rfl,rfl⟩
 | 5,_=>exact⟨rfl,rfl⟩
 | 6,_=>exact⟨rfl,rfl⟩
 | 7,_=>exact⟨rfl,rfl⟩
def NullF(b q j:Nat)(F:World→Value→Prop):Prop:=
 (begN q j=.nilFunc∧∀W,F W (beg0 j))∨∃v c,begN q j=.func (.func 74) #[] #[v]∧(∀W,F W c)∧∀(w:World) (cs:Array Value),cs.size=8→w.heap[b]? =some (.cells cs 113 (0,0))→w.heap[q]? =some (.cells #[.pointer (some ⟨b,0,none⟩)] 107 (0,0))→Calls Tryz.prog 74 #[v] w fun e w'=>e=.returned .nilIface∧w'=w.setCell ⟨b,j,none⟩ c
def FldB(g b q j:Nat)(F:World→Value→Prop)(x:List UInt8):Prop:=
 (x=[64]∧NullF b q j F)∨∃b0 b',x=b0::b'∧b0≠64∧∀(rem:List UInt8) (w:World) (cs:Array Value),cs.size=8→cs[j]? =some (beg0 j)→w.heap[b]? =some (.cells cs 113 (0,0))→Buf w g (b0::(b'++rem))→
  Calls Tryz.prog 80 #[.pointer (some ⟨g,0,none⟩),.iface (begT j) (begP b j)] w fun e w'=>e=.returned .nilIface∧∃c,w'.heap[b]? =some (.cells (cs.setIfInBounds j c) 113 (0,0))∧Keep (fun k=>k≠g∧k≠b) w w'∧Buf w' g rem∧Dep (fun k=>w.heap.size≤k) w' (fun W=>F W c)
def StP(F:Nat→World→Value→Prop)(g b q s:Nat)(w:World)(j:Nat)(rem:List UInt8)(wr:World):Prop:=
 ∃cs:Array Value,cs.size=8∧Buf wr g rem∧Keep (fun k=>k≠g∧k≠b) w wr∧wr.heap[b]? =some (.cells cs 113 (0,0))∧wr.heap[s]? =some (.cells (begC b q) 130 (0,0))∧wr.heap[q]? =some (.cells #[.pointer (some ⟨b,0,none⟩)] 107 (0,0))∧
  ∀i,i<8→∃c,cs[i]? =some c∧(i<j→Dep (fun k=>w.heap.size≤k) wr (fun W=>F i W c))∧(j≤i→c=beg0 i)
section
variable {F:Nat→World→Value→Prop} {g b q s j:Nat} {rem rem':List UInt8} {w wr w':World}
theorem StP.put(hj:j<8)(hg:g<w.heap.size)(hb:b<w.heap.size)(hs:s≠g∧s≠b)(hq:q≠g∧q≠b)(h:StP F g b q s w j rem wr)(k:Keep (fun k=>k≠g∧k≠b) wr w')(B:Buf w' g rem')
 (hc:∀cs:Array Value,cs.size=8→cs[j]? =some (beg0 j)→wr.heap[b]? =some (.cells cs 113 (0,0))→∃c,w'.heap[b]? =some (.cells (cs.setIfInBounds j c) 113 (0,0))∧Dep (fun k=>w.heap.size≤k) w' (fun W=>F j W c)):StP F g b q s w (j+1) rem' w':=by
 obtain⟨cs,h1,h2,h3,h4,h5,h6,h7⟩:=h
 obtain⟨c0,e0,-,e1⟩:=h7 j hj
 rw [e1 (Nat.le_refl _)]at e0
 obtain⟨c,f1,f2⟩:=hc cs h1 e0 h4
 refine⟨_,by simpa using h1,B,h3.trans k,f1,k.blk h5 hs,k.blk h6 hq,fun i hi=>?_⟩
 by_cases e:i=j
 ·subst e
  exact⟨c,by simp [h1,hi],fun _=>f2,fun h=>absurd h (by omega)⟩
 ·obtain⟨c',g1,g2,g3⟩:=h7 i hi
  exact⟨c',by rw [Array.getElem?_setIfInBounds_ne (by omega)];exact g1,fun hlt=>(g2 (by omega)).keep k (fun i _ hi=>by show i≠g∧i≠b;omega),fun hle=>g3 (by omega)⟩
theorem StP.adv(hbg:b≠g)(hg:g<w.heap.size)(hs:s≠g)(hq:q≠g)(h:StP F g b q s w j rem wr)(ha:Adv g rem' wr w'):StP F g b q s w j rem' w':=by
 obtain⟨cs,h1,h2,h3,h4,h5,h6,h7⟩:=h
 refine⟨cs,h1,ha.2,h3.trans (ha.1.mono fun k _ hk=>hk.1),ha.1.blk h4 hbg,ha.1.blk h5 hs,ha.1.blk h6 hq,fun i hi=>?_⟩
 obtain⟨c',g1,g2,g3⟩:=h7 i hi
 exact⟨c',g1,fun hlt=>(g2 hlt).keep ha.1 (fun i _ hi=>by show i≠g;omega),g3⟩
theorem StP.new(h:StP F g b q s w j rem wr)(k:New wr w'):StP F g b q s w j rem w':=by
 obtain⟨cs,h1,h2,h3,h4,h5,h6,h7⟩:=h
 refine⟨cs,h1,h2.new k,h3.trans (k.keep _),k.blk h4 trivial,k.blk h5 trivial,k.blk h6 trivial,fun i hi=>?_⟩
 obtain⟨c',g1,g2,g3⟩:=h7 i hi
 exact⟨c',g1,fun hlt=>(g2 hlt).new k,g3⟩
theorem set_same{cs:Array Value}{j:Nat}{c:Value}(h:cs[j]? =some c):cs.setIfInBounds j c=cs:=by
 refine Array.ext_getElem? fun i=>?_
 by_cases e:j=i
 ·subst e
  have hj:j<cs.size:=by
   rcases Nat.lt_or_ge j cs.size with h1 | h1
   ·exact h1
   ·rw [Array.getElem?_eq_none h1]at h;cases h
  rw [h]
  simp [hj]
 ·rw [Array.getElem?_setIfInBounds_ne e]
theorem StP.null(hj:j<8)(hbg:b≠g)(hg:g<w.heap.size)(hb:b<w.heap.size)(hs:s≠g∧s≠b)(hq:q≠g∧q≠b)(hN:NullF b q j (F j))(h:StP F g b q s w j rem wr):
 begN q j=.nilFunc∧StP F g b q s w (j+1) rem wr∨∃v,begN q j=.func (.func 74) #[] #[v]∧Calls Tryz.prog 74 #[v] wr fun e w2=>e=.returned .nilIface∧StP F g b q s w (j+1) rem w2:=by
 rcases hN with⟨hn,hF⟩ | ⟨v,c,hn,hF,hcall⟩
 ·refine .inl ⟨hn,h.put hj hg hb hs hq (Keep.refl _ _) ?_ fun cs h1 h2 h3=>⟨beg0 j,by rw [set_same h2];exact h3,fun W _=>hF W⟩⟩
  obtain⟨cs,h1,h2,-⟩:=h
  exact h2
 ·obtain⟨cs,h1,h2,h3,h4,h5,h6,h7⟩:=id h
  refine .inr ⟨v,hn,(hcall wr cs h1 h4 h6).mono ?_⟩
  rintro e w2 ⟨rfl,rfl⟩
  refine⟨rfl,h.put hj hg hb hs hq ((Keep.refl _ _).setCell (p:=⟨b,j,none⟩) (.inr (by simp)) _) (h2.set h4 (by decide) hbg _ _) fun cs' k1 k2 k3=>⟨c,blk_set k3 j c,fun W _=>hF W⟩⟩
end
theorem begin_core(F:Nat→World→Value→Prop)(g b q s n:Nat)(od:Int)(d lb r:List UInt8)(bs:List (List UInt8))(hbg:b≠g)(hs:s≠g∧s≠b)(hq:q≠g∧q≠b)(hd:Leaf (.mk 5 17 [] [] od []) d)(Hh:LHd n bs.flatten lb)(hbn:bs.length=n)(hn8:n≤8)(hlen:n≤bs.flatten.length)
 (hF:∀j x,bs[j]? =some x→FldB g b q j (F j) x) (hN:∀j,n≤j→j<8→NullF b q j (F j))
 (w:World) (hb:w.heap[b]? =some (.cells begZ 113 (0,0))) (hS:w.heap[s]? =some (.cells (begC b q) 130 (0,0))) (hQ:w.heap[q]? =some (.cells #[.pointer (some ⟨b,0,none⟩)] 107 (0,0))) (H:Buf w g (0::(d++(lb++(bs.flatten++r))))):
 Calls Tryz.prog 54 #[.pointer (some ⟨g,0,none⟩),.int .u8 17,.slice (some ⟨s,0,none⟩) 8 8] w fun e w'=>e=.returned .nilIface∧StP F g b q s w 8 r w':=by
 have hgl:=H.lt
 have hbl:=lt_blk hb
 refine composite_is g 17 n 8 s od d lb r bs (by omega) hd Hh hbn hn8 (by omega) hlen begT (begP b) (begN q) (fun i hi=>?_) (StP F g b q s w) ?_ ?_ ?_ ?_ w H ?_
 ·match i,hi with
  | 0,_=>exact .inl rfl
  | 1,_=>exact .inr ⟨_,_,rfl⟩
  | 2,_=>exact .inr ⟨_,_,rfl⟩
  | 3,_=>exact .inr ⟨_,_,rfl⟩
  | 4,_=>exact .inr ⟨_,_,rfl⟩
  | 5,_=>exact .inl rfl
  | 6,_=>exact .inl rfl
  | 7,_=>exact .inl rfl
 ·rintro j rem wr ⟨cs,h1,h2,h3,h4,h5,h6,h7⟩
  exact⟨h2,beg_cells h5⟩
 ·exact fun j rem wr w' h k=>h.new k
 ·intro j hj rem wr hP
  have hj8:j<8:=by omega
  rcases hF j bs[j] (by simp [hj])with⟨hx,hnull⟩ | ⟨b0,b',hx,h64,hcall⟩
  ·exact .inl ⟨hx,fun w' ha=>StP.null hj8 hbg hgl hbl hs hq hnull (hP.adv hbg hgl hs.1 hq.1 ha)⟩
  ·refine .inr ⟨b0,b',hx,h64,fun w' ha=>?_⟩
   have hP':=hP.adv hbg hgl hs.1 hq.1 ha
   obtain⟨cs,h1,h2,h3,h4,h5,h6,h7⟩:=id hP'
   obtain⟨c0,e0,-,e1⟩:=h7 j hj8
   rw [e1 (Nat.le_refl _)]at e0
   rw [hx]at h2
   refine(hcall rem w' cs h1 e0 h4 h2).mono ?_
   rintro e w2 ⟨rfl,c,k1,k2,k3,k4⟩
   refine⟨rfl,hP'.put hj8 hgl hbl hs hq k2 k3 fun cs' m1 m2 m3=>?_⟩
   have e:cs'=cs:=by
    rw [h4]at m3
    cases m3
    rfl
   subst e
   exact⟨c,k1,k4.mono fun k _ hk=>Nat.le_trans h3.size hk⟩
 ·exact fun j wr h1 h2 hP=>StP.null h2 hbg hgl hbl hs hq (hN j h1 h2) hP
 ·intro w' ha
  refine⟨begZ,rfl,ha.2,ha.1.mono fun k _ hk=>hk.1,ha.1.blk hb hbg,ha.1.blk hS hs.1,ha.1.blk hQ hq.1,fun i hi=>⟨beg0 i,?_,fun h=>absurd h (by omega),fun _=>rfl⟩⟩
  match i,hi with
  | 0,_=>rfl
  | 1,_=>rfl
  | 2,_=>rfl
  | 3,_=>rfl
  | 4,_=>rfl
  | 5,_=>rfl
  | 6,_=>rfl
  | 7,_=>rfl
theorem null74(b q:Nat)(cs:Array Value)(hsz:cs.size=8)(w:World)(hb:w.heap[b]? =some (.cells cs 113 (0,0)))(hq:w.heap[q]? =some (.cells #[.pointer (some ⟨b,0,none⟩)] 107 (0,0))):
 Calls Tryz.prog 74 #[.pointer (some ⟨q,0,none⟩)] w fun e w'=>e=.returned .nilIface∧w'=w.setCell ⟨b,4,none⟩ (.int .u32 4294967295):=by
 have c0:=(blk_cell hq 0).trans rfl
 obtain⟨u,hu⟩:∃u,cs[4]? =some u:=⟨cs[4],by simp [hsz]⟩
 have c4:=(blk_cell hb 4).trans hu
 have f4:=blk_free hb 4
 go_enter Tryz.func74,Tryz.ntmps74
 go_wp2
 go_ret
 exact⟨rfl,rfl⟩
theorem TMapD.dep{ok:Nat→Prop}{w:World}{ps:List (V×V)}{s:Value}(h:TMapD ok w ps s):Dep ok w (fun W=>TMapD (fun _=>True) W ps s):=by
 intro W hW
 obtain⟨m,es,clock,h1,h2,h3,h4,h5⟩:=h
 refine⟨m,es,clock,h1,h2,h3,h4,fun W2 h6=>h5 W2 fun k hk ho=>?_⟩
 have e:=hW k hk ho
 refine(h6 k ?_ trivial).trans e
 rw [Array.getElem?_eq_getElem hk]at e
 exact lt_blk e
section
variable {g b q:Nat}
theorem fld_rem(hbg:b≠g){l:List Nat}(h1:l.length≤1){x:List UInt8}(hx:EncV [mayF l] x):FldB g b q 0 (fun W c=>ChanR W c l) x:=by
 rcases l with _ | ⟨n,r⟩
 ·exact .inl ⟨nul_enc hx,.inl ⟨rfl,fun W=>.inl ⟨rfl,rfl⟩⟩⟩
 ·obtain rfl:r=[]:=by
   cases r with
   | nil=>rfl
   | cons _ _=>simp at h1
  have hl:Leaf (.mk 3 n [] [] 0 []) x:=hx.leaf1 (by show(3:Int)<21;omega)
  cases hl with
  | u16 n o hn=>
    refine .inr ⟨96,beB 2 n,rfl,by decide,fun rem w cs hsz hc0 hb B=>?_⟩
    refine unm_ptrU16 g ⟨b,0,none⟩ 96 (beB 2 n++rem) (by decide) _ w B fun w1 ha=>?_
    have hb1:=ha.1.blk hb hbg
    refine(ptrU16_is g b 0 hbg 96 (beB 2 n) rem (by decide) (n:Int) (fun w2 B2=>?_) cs 113 (by decide) hc0 w1 hb1 ha.2).mono ?_
    ·have:=readUshort_60 g (beB 2 n) (beB_len 2 n) rem w2 B2
     rwa [beNat_beB 2 n (by simpa using hn)]at this
    ·rintro e w' ⟨rfl,p,k1,k2,k3,k4,k5⟩
     have:=ha.1.size
     exact⟨rfl,_,k1,(ha.1.mono fun k _ hk=>hk.1).trans k4,k5,(Dep.blk (ok:=fun k=>w.heap.size≤k) k3 (by omega)).imp fun W h=>.inr ⟨p,n,rfl,rfl,h⟩⟩
theorem u32_of{h:Nat}{o:Int}{x:List UInt8}(hl:Leaf (.mk 4 h [] [] o []) x):(∃b0 b',x=b0::b'∧b0≠64)∧∀(g:Nat) (r:List UInt8) (w:World),Buf w g (x++r)→Calls Tryz.prog 102 #[.pointer (some ⟨g,0,none⟩)] w fun e w'=>e=.returned (.tuple #[.int .u32 (h:Int),.nilIface])∧Adv g r w w':=by
 cases hl with
 | u32z=>exact⟨⟨67,[],rfl,by decide⟩,fun g r w B=>readUint32_43 g r w B⟩
 | u32s n o hh=>
   refine⟨⟨82,_,rfl,by decide⟩,fun g r w B=>(readUint32_52 g (UInt8.ofNat (h/256 ^ 0 % 256)) r w B).mono fun e w' he=>⟨?_,he.2⟩⟩
   rw [he.1,b1,mod_lt hh]
 | u32 n o hh=>
   refine⟨⟨112,_,rfl,by decide⟩,fun g r w B=>(readUint32_70 g (beB 4 h) (beB_len 4 h) r w (by simpa using B)).mono fun e w' he=>⟨?_,he.2⟩⟩
   rw [he.1,beNat_beB 4 h (by simpa using hh)]
theorem fld_u32{j:Nat}(hj:j=1∨j=2∨j=3∨j=4)(hbg:b≠g){h:Nat}{o:Int}{x:List UInt8}(hl:Leaf (.mk 4 h [] [] o []) x):FldB g b q j (fun _ c=>c=.int .u32 (h:Int)) x:=by
 obtain⟨⟨b0,b',hx,h64⟩,hr⟩:=u32_of hl
 refine .inr ⟨b0,b',hx,h64,fun rem w cs hsz hc0 hb B=>?_⟩
 have e0:begT j=125∧begP b j=.pointer (some ⟨b,j,none⟩)∧beg0 j=.int .u32 0:=by rcases hj with rfl | rfl | rfl | rfl<;>exact⟨rfl,rfl,rfl⟩
 rw [e0.1,e0.2.1]
 rw [e0.2.2]at hc0
 refine(unm_u32 g ⟨b,j,none⟩ hbg b0 b' rem h64 h (fun w2 B2=>hr g rem w2 (by rw [hx];exact B2)) w (.int .u32 0) ((blk_cell hb j).trans hc0) (blk_free hb j) B).mono ?_
 rintro e w4 ⟨rfl,w3,rfl,ha3⟩
 have hc3:=ha3.1.blk hb hbg
 exact⟨rfl,_,blk_set hc3 j _,(ha3.1.mono fun k _ hk=>hk.1).setCell (p:=⟨b,j,none⟩) (.inr (by simp)) _,ha3.2.set hc3 (by decide) hbg _ _,Dep.pure rfl⟩
theorem EncV.arr1{kids:List V}{o:Int}{b:List UInt8}(h:EncV [.mk 23 0 [] kids o []] b):∃code data h,b=h++(code::data)∧EncA kids code data∧Hd 224 240 kids.length (code::data) h∧kids.length≤1000∧kids≠[]:=by
 obtain⟨l,hl⟩:∃l,l=[V.mk 23 0 [] kids o []]:=⟨_,rfl⟩
 rw [←hl]at h
 cases h with
 | nil=>simp at hl
 | leaf h hs=>simp only [List.cons.injEq]at hl;obtain⟨rfl,_⟩:=hl;cases h
 | list0 hs=>simp at hl
 | list hk' hh hm hs=>simp at hl
 | map hk hh hm ok hs=>simp at hl
 | arr hk hh hm hne hs=>
   simp only [List.cons.injEq,V.mk.injEq,true_and,and_true]at hl
   obtain⟨⟨rfl,rfl⟩,rfl⟩:=hl
   cases hs
   exact⟨_,_,_,by simp,hk,hh,hm,hne⟩
theorem symK_text(ts:List (List UInt8)):(symK ts).map V.text=ts:=by
 unfold symK
 rw [List.map_map]
 exact List.map_id' ts
theorem sym_arr{ts:List (List UInt8)}{code:UInt8}{data:List UInt8}(h:EncA (symK ts) code data)(hne:symK ts≠[]):(∀t∈ts,t≠[])∧(code=163∧Lens 1 ts data∨code=179∧Lens 4 ts data):=by
 rcases ts with _ | ⟨t,r⟩
 ·exact absurd rfl hne
 have hm:V.mk 20 0 t [] 0 []∈symK (t::r):=List.mem_cons_self ..
 cases h with
 | num hT hp hn=>
   obtain⟨_,_,o,e⟩:=hp _ hm
   cases hT<;>simp at e
 | uuid hp hn=>
   obtain⟨_,_,o,e⟩:=hp _ hm
   simp at e
 | text hT hp hn hl=>
   rw [symK_text]at hl
   refine⟨fun u hu=>(hn (.mk 20 0 u [] 0 []) (List.mem_map.2 ⟨u,hu,rfl⟩)).2,?_⟩
   obtain⟨_,_,o,e⟩:=hp _ hm
   cases hT with
   | sym8=>exact .inl ⟨rfl,hl⟩
   | sym32=>exact .inr ⟨rfl,hl⟩
   | _=>simp at e
theorem fld_syms{j:Nat}(hj:j=5∨j=6)(hbg:b≠g){ts:List (List UInt8)}{u:V}(hu:Inside (symF ts) u){x:List UInt8}(hx:EncV [u] x):FldB g b q j (fun W c=>Strs W ts c) x:=by
 have e0:begT j=154∧begP b j=.pointer (some ⟨b,j,none⟩)∧beg0 j=.slice none 0 0∧begN q j=.nilFunc:=by rcases hj with rfl | rfl<;>exact⟨rfl,rfl,rfl,rfl⟩
 by_cases hne:ts=[]
 ·subst hne
  rcases hu with rfl | ⟨h,-⟩
  ·exact .inl ⟨nul_enc hx,.inl ⟨e0.2.2.2,fun W=>by rw [e0.2.2.1];exact SlF.nil⟩⟩
  ·simp [symF,nul,V.kind]at h
 have eF:symF ts=.mk 23 0 [] (symK ts) 0 []:=if_neg hne
 rw [eF]at hu
 obtain⟨b0,b',hxb,h64,hcall⟩:∃b0 b',x=b0::b'∧b0≠64∧∀(rem:List UInt8) (w:World),w.cell? ⟨b,j,none⟩=some (.slice none 0 0)→w.frozen? ⟨b,j,none⟩=false→Buf w g (b0::(b'++rem))→
  Calls Tryz.prog 355 #[.pointer (some ⟨b,j,none⟩),.pointer (some ⟨g,0,none⟩)] w fun e w'=>e=.returned .nilIface∧MOut g ⟨b,j,none⟩ rem ts w w':=by
  rcases hu with rfl | ⟨-,h2,h3⟩
  ·obtain⟨code,data,h,rfl,hA,hh,hm,hkn⟩:=hx.arr1
   obtain⟨hts,hl⟩:=sym_arr hA hkn
   have hlen:(symK ts).length=ts.length:=by simp [symK]
   rw [hlen]at hh hm
   have hpos:0<ts.length:=List.length_pos_iff.2 hne
   obtain⟨b0,h',e,hb0⟩:∃b0 h',h=b0::h'∧(b0=224∨b0=240):=by
    rcases hh with⟨s,c,rfl,_⟩ | ⟨p,q,rfl,_⟩
    ·exact⟨_,_,rfl,.inl rfl⟩
    ·exact⟨_,_,rfl,.inr rfl⟩
   have d1:b0≠64∧b0≠163∧b0≠179:=by rcases hb0 with rfl | rfl<;>decide
   refine⟨b0,h'++(code::data),by rw [e];rfl,d1.1,fun rem w hc hf B=>?_⟩
   refine multi_arr g ⟨b,j,none⟩ hbg ts b0 (h'++(code::data)) rem d1.2.1 d1.2.2 d1.1 (by omega) w _ hc hf B fun w1 hc1 hf1 B1=>?_
   have B2:Buf w1 g (h++(code::data++rem)):=by rw [e];simpa using B1
   rcases hl with⟨rfl,hl⟩ | ⟨rfl,hl⟩
   ·exact arraySymbol_8 g ⟨b,j,none⟩ hbg ts data hts hl hpos (by omega) rem h hh w1 hc1 hf1 B2
   ·exact arraySymbol_32 g ⟨b,j,none⟩ hbg ts data hts hl hpos (by omega) rem h hh w1 hc1 hf1 B2
  ·have h2:symK ts=[u]:=h2
   obtain⟨t,rfl⟩:∃t,ts=[t]:=by
    rcases ts with _ | ⟨t,r⟩
    ·exact absurd rfl hne
    ·have:r=[]:=by
      have:=congrArg List.length h2
      simp [symK]at this
      exact this
     rw [this]
     exact⟨t,rfl⟩
   obtain rfl:V.mk 20 0 t [] 0 []=u:=by simpa [symK]using h2
   have hl:=hx.leaf1 (by show(20:Int)<21;omega)
   have ht:=(text1 (.inr rfl) hx).1
   obtain⟨b0,b',e,hb0⟩:∃b0 b',x=b0::b'∧(b0=163∨b0=179):=by
    cases hl with
    | sym8=>exact⟨_,_,rfl,.inl rfl⟩
    | sym32=>exact⟨_,_,rfl,.inr rfl⟩
   rw [e]at ht
   exact⟨b0,b',e,by rcases hb0 with rfl | rfl<;>decide,fun rem w hc hf B=>multi_one g ⟨b,j,none⟩ hbg t b0 b' rem hb0 ht w _ hc hf B⟩
 refine .inr ⟨b0,b',hxb,h64,fun rem w cs hsz hc0 hb B=>?_⟩
 rw [e0.1,e0.2.1]
 rw [e0.2.2.1]at hc0
 have hbl:=lt_blk hb
 refine unm_multi g ⟨b,j,none⟩ b0 (b'++rem) h64 _ w B fun w1 ha=>?_
 have hb1:=ha.1.blk hb hbg
 refine(hcall rem w1 ((blk_cell hb1 j).trans hc0) (blk_free hb1 j) ha.2).mono ?_
 rintro e w' ⟨rfl,sl,w2,rfl,ha2,hd⟩
 have hb2:=ha2.1.blk hb1 hbg
 have:=ha.1.size
 refine⟨rfl,sl,blk_set hb2 j sl,((ha.trans ha2).1.mono fun k _ hk=>hk.1).setCell (p:=⟨b,j,none⟩) (.inr (by simp)) _,ha2.2.set hb2 (by decide) hbg _ _,?_⟩
 exact(hd.mono (ok':=fun k=>w.heap.size≤k) fun k _ hk=>by omega).keep ((Keep.refl (fun k=>k≠b) w2).setCell (p:=⟨b,j,none⟩) (.inr (by simp)) _) (fun k _ hk=>by show k≠b;omega)
theorem fld_map(hbg:b≠g){ps:List (V×V)}{x:List UInt8}(hx:FieldM ps x):FldB g b q 7 (fun W c=>InfoD (fun _=>True) W ps c) x:=by
 rcases hx with⟨rfl,rfl⟩ | ⟨h,body,rfl,hh,hT,hnd,hm,hlen⟩
 ·exact .inl ⟨rfl,.inl ⟨rfl,fun W=>.inl ⟨rfl,rfl⟩⟩⟩
 obtain⟨b0,h',e,h64⟩:∃b0 h',h=b0::h'∧b0≠64:=by
  rcases hh with⟨s,c,rfl,_⟩ | ⟨p,q,rfl,_⟩
  ·exact⟨_,_,rfl,by decide⟩
  ·exact⟨_,_,rfl,by decide⟩
 refine .inr ⟨b0,h'++body,by rw [e];rfl,h64,fun rem w cs hsz hc0 hb B=>?_⟩
 have hbl:=lt_blk hb
 refine(unm_symMap g ⟨b,7,none⟩ hbg b0 (h'++body) rem h64 (fun wa sl wb=>TMapD (fun k=>wa.heap.size≤k) wb ps sl) w _ ((blk_cell hb 7).trans hc0) (blk_free hb 7) B ?_).mono ?_
 ·intro w1 ha hc1 hf1 B1
  refine(symbolMap_is g ⟨b,7,none⟩ hbg ps body rem h hm hlen hh hT hnd w1 _ hc1 hf1 (by rw [e];simpa using B1)).mono ?_
  rintro e w' ⟨rfl,sl,w2,rfl,h1,h2⟩
  exact⟨rfl,sl,w2,rfl,h1,h2⟩
 ·rintro e w' ⟨rfl,sl,w1,w2,rfl,ha,ha2,hd⟩
  have hb2:=(ha.trans ha2).1.blk hb hbg
  have:=ha.1.size
  refine⟨rfl,sl,blk_set hb2 7 sl,((ha.trans ha2).1.mono fun k _ hk=>hk.1).setCell (p:=⟨b,7,none⟩) (.inr (by simp)) _,ha2.2.set hb2 (by decide) hbg _ _,?_⟩
  exact((hd.dep.imp fun W h=>Or.inr h).mono (ok':=fun k=>w.heap.size≤k) fun k _ hk=>by omega).keep ((Keep.refl (fun k=>k≠b) w2).setCell (p:=⟨b,7,none⟩) (.inr (by simp)) _) (fun k _ hk=>by show k≠b;omega)
end
structure BegA(G:Beg)(ps:List (V×V)):Prop where
 rem:G.rem.length≤1
 props:G.props=flat2 ps
 key:∀q∈ps,q.1.kind=20
 num:∀q∈ps,q.1.num=0
theorem mayF_ok(l:List Nat):(mayF l).kind≠23∧(mayF l).desc=[]∧((mayF l).kind=0→l=[]):=by
 cases l<;>simp [mayF,nul,V.kind,V.desc]
theorem symF_ok(ts:List (List UInt8)):(symF ts).desc=[]∧((symF ts).kind=0→ts=[]):=by
 unfold symF
 split
 ·rename_i e;exact⟨rfl,fun _=>e⟩
 ·exact⟨rfl,fun h=>by simp [V.kind]at h⟩
theorem mpF_ok(l:List V):(mpF l).kind≠23∧(mpF l).desc=[]∧((mpF l).kind=0→l=[]):=by
 unfold mpF
 split
 ·rename_i e;exact⟨by simp [nul,V.kind],rfl,fun _=>e⟩
 ·exact⟨by simp [V.kind],rfl,fun h=>by simp [V.kind]at h⟩
theorem flat2_nil{ps:List (V×V)}(h:flat2 ps=[]):ps=[]:=by
 rcases ps with _ | ⟨q,ps⟩
 ·rfl
 ·simp [flat2]at h
theorem max_put{m:Nat}{u:V}(h:Put1 (.mk 4 m [] [] 0 [],.mk 4 4294967295 [] [] 0 []) u):u=.mk 4 m [] [] 0 []∨u=nul∧m=4294967295:=by
 rcases h with(h | h) | ⟨h,-,-,hs⟩
 ·exact .inl h
 ·exact absurd h.1 (by simp [V.kind])
 ·refine .inr ⟨h,?_⟩
  simp [sameV]at hs
  exact hs.1
theorem syms_put{ts:List (List UInt8)}{u:V}(h:Put1 (symF ts,nul) u):Inside (symF ts) u:=by
 rcases h with h | ⟨-,-,h,-⟩
 ·exact h
 ·exact absurd rfl h
theorem null_max{b q:Nat}:NullF b q 4 (fun _ c=>c=.int .u32 ((4294967295:Nat):Int)):=
 .inr ⟨_,.int .u32 4294967295,rfl,fun _=>rfl,fun w cs h1 h2 h3=>null74 b q cs h1 w h2 h3⟩
theorem fld_of{g b q:Nat}(hbg:b≠g){G:Beg}{ps:List (V×V)}(hA:BegA G ps){j:Nat}(hj:j<8){u:V}(hu:Put1 ((begF G)[j]'hj) u){x:List UInt8}(hx:EncV [u] x):FldB g b q j (begG G ps j) x:=by
 match j,hj with
 | 0,_=>
   rw [show u=mayF G.rem from Put1.same (v:=mayF G.rem) hu (mayF_ok _).1]at hx
   exact fld_rem hbg hA.rem hx
 | 1,_=>
   rw [show u=.mk 4 G.no [] [] 0 [] from Put1.same (v:=.mk 4 G.no [] [] 0 []) hu (by simp [V.kind])]at hx
   exact fld_u32 (.inl rfl) hbg (hx.leaf1 (by simp [V.kind]))
 | 2,_=>
   rw [show u=.mk 4 G.iw [] [] 0 [] from Put1.same (v:=.mk 4 G.iw [] [] 0 []) hu (by simp [V.kind])]at hx
   exact fld_u32 (.inr (.inl rfl)) hbg (hx.leaf1 (by simp [V.kind]))
 | 3,_=>
   rw [show u=.mk 4 G.ow [] [] 0 [] from Put1.same (v:=.mk 4 G.ow [] [] 0 []) hu (by simp [V.kind])]at hx
   exact fld_u32 (.inr (.inr (.inl rfl))) hbg (hx.leaf1 (by simp [V.kind]))
 | 4,_=>
   rcases max_put (m:=G.hm) hu with rfl | ⟨rfl,hm⟩
   ·exact fld_u32 (.inr (.inr (.inr rfl))) hbg (hx.leaf1 (by simp [V.kind]))
   ·refine .inl ⟨nul_enc hx,?_⟩
    show NullF b q 4 (fun _ c=>c=.int .u32 (G.hm:Int))
    rw [hm]
    exact null_max
 | 5,_=>exact fld_syms (.inl rfl) hbg (syms_put (ts:=G.off) hu) hx
 | 6,_=>exact fld_syms (.inr rfl) hbg (syms_put (ts:=G.des) hu) hx
 | 7,_=>
   rw [show u=mpF G.props from Put1.same (v:=mpF G.props) hu (mpF_ok _).1,hA.props]at hx
   exact fld_map hbg (fieldM_of (fun q hq=>.inr (hA.key q hq)) hA.num hx)
theorem null_of{b q:Nat}{G:Beg}{ps:List (V×V)}(hA:BegA G ps){j:Nat}(hj:j<8){u:V}(hu:Put1 ((begF G)[j]'hj) u)(h0:u.kind=0):NullF b q j (begG G ps j):=by
 match j,hj with
 | 0,_=>
   rw [show u=mayF G.rem from Put1.same (v:=mayF G.rem) hu (mayF_ok _).1]at h0
   exact .inl ⟨rfl,fun W=>.inl ⟨rfl,(mayF_ok _).2.2 h0⟩⟩
 | 1,_=>
   rw [show u=.mk 4 G.no [] [] 0 [] from Put1.same (v:=.mk 4 G.no [] [] 0 []) hu (by simp [V.kind])]at h0
   simp [V.kind]at h0
 | 2,_=>
   rw [show u=.mk 4 G.iw [] [] 0 [] from Put1.same (v:=.mk 4 G.iw [] [] 0 []) hu (by simp [V.kind])]at h0
   simp [V.kind]at h0
 | 3,_=>
   rw [show u=.mk 4 G.ow [] [] 0 [] from Put1.same (v:=.mk 4 G.ow [] [] 0 []) hu (by simp [V.kind])]at h0
   simp [V.kind]at h0
 | 4,_=>
   rcases max_put (m:=G.hm) hu with rfl | ⟨rfl,hm⟩
   ·simp [V.kind]at h0
   ·show NullF b q 4 (fun _ c=>c=.int .u32 (G.hm:Int))
    rw [hm]
    exact null_max
 | 5,_=>
   refine .inl ⟨rfl,fun W=>?_⟩
   have:G.off=[]:=by
    rcases syms_put (ts:=G.off) hu with rfl | ⟨-,-,h⟩
    ·exact(symF_ok _).2 h0
    ·omega
   show Strs W G.off (.slice none 0 0)
   rw [this]
   exact SlF.nil
 | 6,_=>
   refine .inl ⟨rfl,fun W=>?_⟩
   have:G.des=[]:=by
    rcases syms_put (ts:=G.des) hu with rfl | ⟨-,-,h⟩
    ·exact(symF_ok _).2 h0
    ·omega
   show Strs W G.des (.slice none 0 0)
   rw [this]
   exact SlF.nil
 | 7,_=>
   rw [show u=mpF G.props from Put1.same (v:=mpF G.props) hu (mpF_ok _).1,hA.props]at h0
   exact .inl ⟨rfl,fun W=>.inl ⟨rfl,flat2_nil ((mpF_ok _).2.2 h0)⟩⟩
theorem beg_desc{G:Beg}{j:Nat}(hj:j<8){u:V}(hu:Put1 ((begF G)[j]'hj) u):u.desc=[]:=by
 rcases hu with(h | ⟨h1,h2,h3⟩) | ⟨h,-⟩
 ·rw [h]
  match j,hj with
  | 0,_=>exact(mayF_ok _).2.1
  | 1,_=>rfl
  | 2,_=>rfl
  | 3,_=>rfl
  | 4,_=>rfl
  | 5,_=>exact(symF_ok _).1
  | 6,_=>exact(symF_ok _).1
  | 7,_=>exact(mpF_ok _).2.1
 ·have key:∀ts:List (List UInt8),(symF ts).kids=[u]→u.desc=[]:=by
   intro ts h
   have hm:u∈(symF ts).kids:=by rw [h];exact List.mem_cons_self ..
   unfold symF at hm
   split at hm
   ·simp [nul,V.kids]at hm
   ·obtain⟨t,-,rfl⟩:=List.mem_map.1 hm
    rfl
  match j,hj with
  | 0,_=>exact absurd h1 (mayF_ok _).1
  | 1,_=>exact absurd h1 (by simp [begF,V.kind])
  | 2,_=>exact absurd h1 (by simp [begF,V.kind])
  | 3,_=>exact absurd h1 (by simp [begF,V.kind])
  | 4,_=>exact absurd h1 (by simp [begF,V.kind])
  | 5,_=>exact key _ h2
  | 6,_=>exact key _ h2
  | 7,_=>exact absurd h1 (mpF_ok _).1
 ·rw [h]
  rfl
theorem begin_law{G:Beg}{ps:List (V×V)}{ks:List V}{o od:Int}{b:List UInt8}(hA:BegA G ps)(hk:PutK (begF G) ks)(he:EncW [.mk 21 0 [] ks o [.mk 5 17 [] [] od []]] b):
 ∃(n:Nat) (d lb:List UInt8) (bs:List (List UInt8)),b=0::(d++(lb++bs.flatten))∧Leaf (.mk 5 17 [] [] od []) d∧LHd n bs.flatten lb∧bs.length=n∧n≤8∧n≤bs.flatten.length∧
  (∀g b q,b≠g→∀j x,bs[j]? =some x→FldB g b q j (begG G ps j) x)∧∀b q j,n≤j→j<8→NullF b q j (begG G ps j):=by
 obtain⟨d,lb,body,rfl,hd,hh,hb⟩:=he.comp_inv
 have hlen:=hb.len
 obtain⟨bs,e1,rfl,e3⟩:=hb.split
 have hle:ks.length≤8:=hk.le
 refine⟨ks.length,d,lb,bs,rfl,hd,hh,e1,hle,hlen,fun g b q hbg j x hx=>?_,fun b q j h1 h2=>?_⟩
 ·obtain⟨hj,rfl⟩:=List.getElem?_eq_some_iff.1 hx
  have hjk:j<ks.length:=by omega
  have hj8:j<8:=by omega
  have hu:=hk.each j hjk hj8
  exact fld_of hbg hA hj8 hu ((e3 j hjk hj).v1 (beg_desc hj8 hu))
 ·obtain⟨u,hu,h0⟩:=hk.rest j h2 h1
  exact null_of hA h2 hu h0
theorem begin_enter(g b:Nat)(w:World)(Q:World→Prop)
 (hcall:∀w1,New w w1→w1.heap[w.heap.size]? =some (.cells #[.pointer (some ⟨b,0,none⟩)] 107 (0,0))→w1.heap[w.heap.size+1]? =some (.cells (begC b w.heap.size) 130 (0,0))→
  Calls Tryz.prog 54 #[.pointer (some ⟨g,0,none⟩),.int .u8 17,.slice (some ⟨w.heap.size+1,0,none⟩) 8 8] w1 fun e w'=>e=.returned .nilIface∧w'.cell? ⟨w.heap.size,0,none⟩=some (.pointer (some ⟨b,0,none⟩))∧Q w'):
 Calls Tryz.prog 48 #[.pointer (some ⟨b,0,none⟩),.pointer (some ⟨g,0,none⟩)] w fun e w'=>e=.returned .nilIface∧Q w':=by
 have hq:=blk_new w (.cells #[.pointer (some ⟨b,0,none⟩)] 107)
 have h0:=hcall ((w.alloc (.cells #[.pointer (some ⟨b,0,none⟩)] 107)).drew.alloc (.cells (begC b w.heap.size) 130)) ((((Keep.refl _ w).alloc _).drew).alloc _) (blk_alloc (w:=(w.alloc (.cells #[.pointer (some ⟨b,0,none⟩)] 107)).drew) hq _) (by simpa using blk_new (w.alloc (.cells #[.pointer (some ⟨b,0,none⟩)] 107)).drew (.cells (begC b w.heap.size) 130))
 unfold begC begT begP begN at h0
 have HC:=Lib.hid h0
 have z0:(w.alloc (.cells #[.pointer (some ⟨b,0,none⟩)] 107)).cell? ⟨w.heap.size,0,none⟩=some (.pointer (some ⟨b,0,none⟩)):=(blk_cell hq 0).trans rfl
 clear hcall h0 hq
 go_enter Tryz.func48,Tryz.ntmps48
 go_wp2_with fail
 go_region_held3 (fun w'=>w'.cell? ⟨w.heap.size,0,none⟩=some (.pointer (some ⟨b,0,none⟩))) (first | go_keep | exact z0 | exact z4)
  (first | (go_at_call 70;refine(newU16_is ⟨b,0,none⟩ _).mono ?_;rintro e w4 ⟨rfl,rfl⟩) | (go_at_call 54;refine HC.out.mono ?_;rintro e w4 ⟨rfl,z4,hq⟩))
 all_goals first
  | (go_wp2;go_ret;exact⟨rfl,hq⟩)
  | (go_ret;exact⟨rfl,hq⟩)
theorem begin_is(F:Nat→World→Value→Prop)(g b n:Nat)(od:Int)(d lb r:List UInt8)(bs:List (List UInt8))(hbg:b≠g)(hd:Leaf (.mk 5 17 [] [] od []) d)(Hh:LHd n bs.flatten lb)(hbn:bs.length=n)(hn8:n≤8)(hlen:n≤bs.flatten.length)
 (hF:∀g b q,b≠g→∀j x,bs[j]? =some x→FldB g b q j (F j) x) (hN:∀b q j,n≤j→j<8→NullF b q j (F j))
 (w:World) (hb:w.heap[b]? =some (.cells begZ 113 (0,0))) (H:Buf w g (0::(d++(lb++(bs.flatten++r))))):
 Calls Tryz.prog 48 #[.pointer (some ⟨b,0,none⟩),.pointer (some ⟨g,0,none⟩)] w fun e w'=>e=.returned .nilIface∧∃cs:Array Value,cs.size=8∧Buf w' g r∧Keep (fun k=>k≠g∧k≠b) w w'∧w'.heap[b]? =some (.cells cs 113 (0,0))∧∀i,i<8→∃c,cs[i]? =some c∧Dep (fun k=>w.heap.size≤k) w' (fun W=>F i W c):=by
 have hblt:=lt_blk hb
 have hglt:=H.lt
 refine begin_enter g b w _ fun w1 k1 hq hs=>?_
 refine(begin_core F g b w.heap.size (w.heap.size+1) n od d lb r bs hbg ⟨by omega,by omega⟩ ⟨by omega,by omega⟩ hd Hh hbn hn8 hlen (hF g b _ hbg) (hN b _) w1 (k1.blk hb trivial) hs hq (H.new k1)).mono ?_
 rintro e w' ⟨rfl,cs,h1,h2,h3,h4,-,h6,h7⟩
 refine⟨rfl,(blk_cell h6 0).trans rfl,cs,h1,h2,(k1.keep _).trans h3,h4,fun i hi=>?_⟩
 obtain⟨c,e1,e2,-⟩:=h7 i hi
 exact⟨c,e1,(e2 hi).mono fun k _ hk=>Nat.le_trans k1.size hk⟩
end Go.Proofs.YtfoegolfadhmjaaGreatDoor
