/- spec.numbered at kinds that have shorter forms. spec.Forms.pieces at plain values. spec.Forms.pieces at a plain value; plain laws of an array's elements. spec.Forms.elements: the forms of an array's elements. spec.Forms.array. spec.Forms.pieces at lists and maps. spec.PutValue. spec.PutValue writes every value that is asked. spec.Forms.inside. spec.ofNumber. spec.Composite.Whole. What Put writes of composite values, and what is read of an error: plain laws. spec.Composite.Put. What is read is the same as what was written: plain laws. -/
import Derived.Test.YtfoegolfadhmjaaGreatDoorU06
import Derived.Test.YtfoegolfadhmjaaGreatDoorU07
import Derived.Test.YtfoegolfadhmjaaGreatDoorU08
import Derived.Laws.IdiomStrings
set_option linter.unusedVariables false
set_option linter.unusedSimpArgs false
set_option maxRecDepth 100000
set_option maxHeartbeats 16000000
set_option linter.all false
namespace Go.Proofs.YtfoegolfadhmjaaGreatDoor
open Go.RowKit Go.WideShapes
def shortP(k:Int)(n:Nat):List (UInt8×List UInt8):=
 if k=4 then(if n=0 then [(67,[])]else [])++(if n<256 then [(82,beB 1 n)]else [])
 else if k=5 then(if n=0 then [(68,[])]else [])++(if n<256 then [(83,beB 1 n)]else [])
 else if k=8 then(if -128≤sgn n∧sgn n<128 then [(84,beB 1 n)]else [])
 else if k=9 then(if -128≤sgn n∧sgn n<128 then [(85,beB 1 n)]else [])
 else []
theorem sgn_wrap(n:Nat)(hn:n<18446744073709551616):wrap64 (n:Int)=sgn n:=rfl
theorem put_front(X:World){base:Nat}{s0:Value}{fs:List (UInt8×List UInt8)}(hrow:RowG 143 2 Pcs X base s0 fs)(hfs:0<fs.length)(hfs2:fs.length≤1000)(hb:base≤X.heap.size)(c:UInt8):
 ∃r w',(Builtin.append_ #[140,140] 140 #[.slice (some ⟨X.heap.size,0,none⟩) 1 1,s0]).run Tryz.prog (X.alloc (.cells #[.int .i64 (c.toNat:Int),.slice none 0 0] 143))=.ok r w'∧New X w'∧RowG 143 2 Pcs w' base r ((c,[])::fs):=by
 have kN:=(Keep.refl (fun _=>True) X).alloc (.cells #[.int .i64 (c.toNat:Int),.slice none 0 0] 143)
 have row:RowG 143 2 Pcs (X.alloc (.cells #[.int .i64 (c.toNat:Int),.slice none 0 0] 143)) X.heap.size (.slice (some ⟨X.heap.size,0,none⟩) 1 1) [(c,[])]:=
  ⟨[.int .i64 (c.toNat:Int),.slice none 0 0],⟨rfl,.inr ⟨X.heap.size,1,#[.int .i64 (c.toNat:Int),.slice none 0 0],rfl,Nat.le_refl _,blk_new X _,Nat.le_refl _,by unfold maxLen;omega,rfl,rfl⟩⟩,fun w' _=>Pcs.cons (RowB.nil (w:=w') (base:=0)).out.here.toC .nil⟩
 obtain⟨cells,ho,hd⟩:=hrow
 have hsl:=(slG_own ho).keep kN
 obtain⟨A,cc,hs0⟩:∃A cc,s0=.slice A fs.length cc:=(let ⟨A,cc,e,_⟩:=hsl.shape;⟨A,cc,e⟩)
 have hs1:=hs0
 rw [hs0]at hsl
 obtain⟨d,i,hA,_,_,_,hcell⟩:=hsl.at (by omega)
 have hlen:=pieceCells.len hd.here
 have hown:=row.far
 obtain⟨g,cap,w',hr,hrow',k',hg⟩:=(row.mono hb).step pieceCells (vs:=fs) Tryz.underlying140 info143 rfl (by omega) (by omega) d i cc cells (fun j u hj=>hcell j u (by rw [←hlen];exact(List.getElem?_eq_some_iff.1 hj).1) hj)
  (hd.step kN.size (fun i hi _=>kN.block i hi trivial) (fun b hb' hok=>⟨hok.1,hown b hb'⟩)) hfs (by simp;omega) (Nat.le_trans hb kN.size)
 exact⟨_,w',by rw [hs0,hA];exact hr,kN.then k' (fun i hi _=>hown i hi),hrow'⟩
theorem numbered_two(FX:FixOK)(k:Int)(code:UInt8)(s:Nat)(hs:s≤8)(hk:(codedL.lookup k).getD 0=(code.toNat:Int))(hf:fixedV k=s)(hcl:k=4∨k=5∨k=8∨k=9)
 (n:Nat) (hn:n<18446744073709551616) (t:List UInt8) (A1 A2:Option Addr) (a c1 b c2:Nat) (o:Int) (w:World):
 Calls Tryz.prog 85 #[.agg #[.int .i64 k,.int .u64 (n:Int),.string ⟨t.toArray⟩,.slice A1 a c1,.int .i64 o,.slice A2 b c2]] w fun e w'=>∃sl,e=.returned sl∧New w w'∧RowG 143 2 Pcs w' w.heap.size sl (shortP k n++[(code,beB s n)]):=by
 have hc1:=fun w=>coded_is k w
 have hc2:=fun w=>FX k w
 have hc3:=fun w=>big_is n s hn hs w
 rw [hk]at hc1
 rw [hf]at hc2
 have H1:=Lib.hid hc1
 have H2:=Lib.hid hc2
 have H3:=Lib.hid hc3
 have q0:=(blk_cell (blk_new w (.cells #[.int .i64 k,.int .u64 (n:Int),.string ⟨t.toArray⟩,.slice A1 a c1,.int .i64 o,.slice A2 b c2] 78)) 0).trans rfl
 have q1:=(blk_cell (blk_new w (.cells #[.int .i64 k,.int .u64 (n:Int),.string ⟨t.toArray⟩,.slice A1 a c1,.int .i64 o,.slice A2 b c2] 78)) 1).trans rfl
 clear hc1 hc2 hc3 hk hf FX
 go_enter Tryz.func85,Tryz.ntmps85
 go_wp2_with fail
 go_quiet (fail)
 go_wp2_with fail
 go_upto_region 2 with fail
 go_cut [5] (fun s5 wc=>∃(p:Nat) (v:Value),s5=.pointer (some ⟨p,0,none⟩)∧wc.heap[p]? =some (.cells #[.int .i64 (code.toNat:Int),v] 143 (0,0))∧New w wc∧w.heap.size<p∧Dep (fun b=>w.heap.size≤b∧b≠p) wc (fun w=>SlB w v (beB s n))∧wc.cell? ⟨w.heap.size,0,none⟩=some (.int .i64 k))
 case first=>
  go_region_held3 (fun w'=>w'.cell? ⟨w.heap.size,0,none⟩=some (.int .i64 k)∧New w w')
   (first | exact sb | exact sc | exact sf | exact hold1 sb ((Keep.refl _ _).alloc _) | exact hold1 sc ((Keep.refl _ _).alloc _) | exact hold1 sf ((Keep.refl _ _).alloc _) | exact holdS (holdS sb (by omega) (by omega)) (by omega) (by omega) | exact holdS (holdS sc (by omega) (by omega)) (by omega) (by omega) | exact holdS (holdS sf (by omega) (by omega)) (by omega) (by omega) | exact hold1 (by assumption) ((Keep.refl _ _).alloc _) | exact⟨q0,(((Keep.refl _ w).alloc _).drewN _).drew⟩)
   (first | (go_at_call 82;refine(H1.out _).mono ?_;rintro e wc ⟨rfl,kc⟩;have sc:=hold1 (by assumption) kc;have zc:=kc.size;(try simp only [World.size_alloc,World.size_drew,drewN_size]at zc);(first | have P:=kc.blk P trivial | have P:=kc.blk (blk_new (w.alloc (.cells #[.int .i64 k,.int .u64 (n:Int),.string ⟨t.toArray⟩,.slice A1 a c1,.int .i64 o,.slice A2 b c2] 78)) (.cells #[.int .i64 0,.slice none 0 0] 143)) trivial | have P:=kc.blk (blk_new _ _) trivial | skip);(try simp only [World.size_alloc,World.size_drew,drewN_size]at P);(try (have P0:=(blk_cell P 0).trans rfl;have P1:=(blk_cell P 1).trans rfl;have F0:=blk_free P 0;have F1:=blk_free P 1))) | (go_at_call 135;refine(H2.out _).mono ?_;rintro e wf ⟨rfl,kf⟩;have sf:=hold1 (by assumption) kf;have zf:=kf.size;(try simp only [World.size_alloc,World.size_drew,drewN_size]at zf);(first | have P:=kf.blk P trivial | have P:=kf.blk (blk_new (w.alloc (.cells #[.int .i64 k,.int .u64 (n:Int),.string ⟨t.toArray⟩,.slice A1 a c1,.int .i64 o,.slice A2 b c2] 78)) (.cells #[.int .i64 0,.slice none 0 0] 143)) trivial | have P:=kf.blk (blk_new _ _) trivial | skip);(try simp only [World.size_alloc,World.size_drew,drewN_size]at P);(try (have P0:=(blk_cell P 0).trans rfl;have P1:=(blk_cell P 1).trans rfl;have F0:=blk_free P 0;have F1:=blk_free P 1))) | (go_at_call 133;refine(H3.out _).mono ?_;rintro e wb ⟨v,rfl,kb,hrb⟩;have sb:=hold1 (by assumption) kb;have zb:=kb.size;(try simp only [World.size_alloc,World.size_drew,drewN_size]at zb);(first | have P:=kb.blk P trivial | have P:=kb.blk (blk_new (w.alloc (.cells #[.int .i64 k,.int .u64 (n:Int),.string ⟨t.toArray⟩,.slice A1 a c1,.int .i64 o,.slice A2 b c2] 78)) (.cells #[.int .i64 0,.slice none 0 0] 143)) trivial | have P:=kb.blk (blk_new _ _) trivial | skip);(try simp only [World.size_alloc,World.size_drew,drewN_size]at P);(try (have P0:=(blk_cell P 0).trans rfl;have P1:=(blk_cell P 1).trans rfl;have F0:=blk_free P 0;have F1:=blk_free P 1));obtain⟨Av,nv,cv,hv⟩:∃A n c,v=.slice A n c:=(let ⟨A,c,e⟩:=hrb.shape;⟨A,_,c,e⟩);subst hv))
  all_goals (go_wp2_with fail;go_meet;first | exact⟨_,_,rfl,fin_alloc sb hrb.out (Keep.refl _ _) (fun k _ h=>by (try simp only [World.size_alloc,World.size_drew,drewN_size]at h);omega) (by omega) _ _⟩ | exact⟨_,_,rfl,fin_set P sb hrb.out (Keep.refl _ _) (fun k hk h=>by (try simp only [World.size_alloc,World.size_drew,drewN_size]at h);omega) (by omega) _ _⟩ | exact⟨_,_,rfl,fin_alloc sc hrb.out kc (fun k _ h=>by (try simp only [World.size_alloc,World.size_drew,drewN_size]at h);omega) (by omega) _ _⟩ | exact⟨_,_,rfl,fin_set P sc hrb.out kc (fun k hk h=>by (try simp only [World.size_alloc,World.size_drew,drewN_size]at h);omega) (by omega) _ _⟩ | exact⟨_,_,rfl,fin_alloc sc hrb.out (kf.trans kc) (fun k _ h=>by (try simp only [World.size_alloc,World.size_drew,drewN_size]at h);omega) (by omega) _ _⟩ | exact⟨_,_,rfl,fin_set P sc hrb.out (kf.trans kc) (fun k hk h=>by (try simp only [World.size_alloc,World.size_drew,drewN_size]at h);omega) (by omega) _ _⟩)
 case rest=>
  obtain⟨p,v,rfl,hp,kc,hpl,hd,hkc⟩:=hcut
  obtain⟨Av,nv,cv,hv⟩:∃A n c,v=.slice A n c:=(let ⟨A,c,e,_⟩:=hd.here;⟨A,_,c,e⟩)
  subst hv
  have p0:=(blk_cell hp 0).trans rfl
  have p1:=(blk_cell hp 1).trans rfl
  have hkc2:=cell_alloc hkc (.cells #[.int .i64 (code.toNat:Int),.slice Av nv cv] 143)
  have kN:=(Keep.refl (fun _=>True) wc).alloc (.cells #[.int .i64 (code.toNat:Int),.slice Av nv cv] 143)
  have hsz:=kc.size
  have HD:=Lib.hid hd
  have row0:RowG 143 2 Pcs (wc.alloc (.cells #[.int .i64 (code.toNat:Int),.slice Av nv cv] 143)) w.heap.size (.slice (some ⟨wc.heap.size,0,none⟩) 1 1) [(code,beB s n)]:=⟨[.int .i64 (code.toNat:Int),.slice Av nv cv],⟨rfl,.inr ⟨wc.heap.size,1,#[.int .i64 (code.toNat:Int),.slice Av nv cv],rfl,hsz,blk_new wc _,Nat.le_refl _,by unfold maxLen;omega,rfl,rfl⟩⟩,
   (hd.step kN.size (fun i hi _=>kN.block i hi trivial) (fun b hb hok=>⟨hok.1,fun e=>by simp [Value.ownBlock]at e;omega⟩)).imp fun w h=>Pcs.cons h.toC .nil⟩
  have kw:=kc.trans kN
  clear hp hd H1 H2 H3
  have HR0:=Lib.hid row0
  have hb0:w.heap.size≤(wc.alloc (.cells #[.int .i64 (code.toNat:Int),.slice Av nv cv] 143)).heap.size:=kw.size
  rcases hcl with rfl | rfl | rfl | rfl
  ·by_cases h256:n<256
   ·have f256:decide ((n:Int)<256)=true:=by simpa using (by omega:(n:Int)<256)
    go_wp2_with fail
    rename_i hK
    refine ins_region_8 (c:=82) rfl rfl rfl rfl hkc2 hn rfl (by omega) HR0.out (by simp) (by simp) ?_
    intro a' w' ag kk row
    obtain⟨s6,h6⟩:∃s,a'.eval (.tmp 6)=s:=⟨_,rfl⟩
    rw [h6]at row
    have e:=ag.eq
    simp only [setAll,h6,List.set_cons_succ,List.set_cons_zero]at e
    generalize a'.eval (.tmp 30)=x0 at e
    generalize a'.eval (.tmp 31)=x1 at e
    generalize a'.eval (.tmp 32)=x2 at e
    generalize a'.eval (.tmp 33)=x3 at e
    generalize a'.eval (.tmp 34)=x4 at e
    generalize a'.eval (.tmp 35)=x5 at e
    generalize a'.eval (.tmp 36)=x6 at e
    generalize a'.eval (.tmp 37)=x7 at e
    generalize a'.eval (.tmp 38)=x8 at e
    generalize a'.eval (.tmp 39)=x9 at e
    generalize a'.eval (.tmp 40)=x10 at e
    subst e
    refine hK _ _ ?_
    obtain⟨A6,n6,c6,rfl⟩:∃A n c,s6=.slice A n c:=(let ⟨A,c,e⟩:=row.shape;⟨A,_,c,e⟩)
    have kw':=kw.trans kk
    have HR:=Lib.hid row
    by_cases h0:n=0
    ·have f0:((n:Int)==0)=true:=by simpa using h0
     have z1:=make294 w'
     have z2:=ins_new w' 4 67
     have z3:=ins_two w' 5 68 4 67 (by decide)
     have z4:=look_gen (w'.alloc (.map #[ent 4 67 0,ent 5 68 1] 2)) w'.heap.size _ 2 4 0 67 (blk_new w' _) rfl
     have z5:=cell_alloc (kk.cell hkc2 trivial) (.map #[ent 4 67 0,ent 5 68 1] 2)
     have kM:=(Keep.refl (fun _=>True) w').alloc (.map #[ent 4 67 0,ent 5 68 1] 2)
     obtain⟨r,w9,z6,k9,row9⟩:=put_front (w'.alloc (.map #[ent 4 67 0,ent 5 68 1] 2)) (HR.out.keep kM (fun _ _=>trivial)) (by simp) (by simp) (Nat.le_trans kw'.size kM.size) 67
     have z6b:(Builtin.append_ #[140,140] 140 #[.slice (some ⟨w'.heap.size+1,0,none⟩) 1 1,.slice A6 n6 c6]).run Tryz.prog ((w'.alloc (.map #[ent 4 67 0,ent 5 68 1] 2)).alloc (.cells #[.int .i64 67,.slice none 0 0] 143))=.ok r w9:=by rw [←World.size_alloc w' (.map #[ent 4 67 0,ent 5 68 1] 2)];exact z6
     have HAP:=Lib.hid z6b
     clear z6 z6b
     go_wp2_with (at_builtin;refine wpList_append_eq rfl _ _ 140 rfl _ _ _ _ rfl rfl HAP.out ?_)
     go_ret
     exact⟨_,rfl,(kw'.trans kM).trans k9,by simpa [shortP,h0]using row9⟩
    ·have f0:((n:Int)==0)=false:=by simpa using h0
     go_wp2
     go_ret
     exact⟨_,rfl,kw',by simpa [shortP,h0,h256]using HR.out⟩
   ·have f256:decide ((n:Int)<256)=false:=by simpa using (by omega:¬(n:Int)<256)
    have f0:((n:Int)==0)=false:=by simpa using (by omega:¬n=0)
    have h0:¬n=0:=by omega
    go_wp2
    go_ret
    exact⟨_,rfl,kw,by simpa [shortP,h0,h256]using HR0.out⟩
  ·by_cases h256:n<256
   ·have f256:decide ((n:Int)<256)=true:=by simpa using (by omega:(n:Int)<256)
    go_wp2_with fail
    rename_i hK
    refine ins_region_8 (c:=83) rfl rfl rfl rfl hkc2 hn rfl (by omega) HR0.out (by simp) (by simp) ?_
    intro a' w' ag kk row
    obtain⟨s6,h6⟩:∃s,a'.eval (.tmp 6)=s:=⟨_,rfl⟩
    rw [h6]at row
    have e:=ag.eq
    simp only [setAll,h6,List.set_cons_succ,List.set_cons_zero]at e
    generalize a'.eval (.tmp 30)=x0 at e
    generalize a'.eval (.tmp 31)=x1 at e
    generalize a'.eval (.tmp 32)=x2 at e
    generalize a'.eval (.tmp 33)=x3 at e
    generalize a'.eval (.tmp 34)=x4 at e
    generalize a'.eval (.tmp 35)=x5 at e
    generalize a'.eval (.tmp 36)=x6 at e
    generalize a'.eval (.tmp 37)=x7 at e
    generalize a'.eval (.tmp 38)=x8 at e
    generalize a'.eval (.tmp 39)=x9 at e
    generalize a'.eval (.tmp 40)=x10 at e
    subst e
    refine hK _ _ ?_
    obtain⟨A6,n6,c6,rfl⟩:∃A n c,s6=.slice A n c:=(let ⟨A,c,e⟩:=row.shape;⟨A,_,c,e⟩)
    have kw':=kw.trans kk
    have HR:=Lib.hid row
    by_cases h0:n=0
    ·have f0:((n:Int)==0)=true:=by simpa using h0
     have z1:=make294 w'
     have z2:=ins_new w' 4 67
     have z3:=ins_two w' 5 68 4 67 (by decide)
     have z4:=look_gen (w'.alloc (.map #[ent 4 67 0,ent 5 68 1] 2)) w'.heap.size _ 2 5 1 68 (blk_new w' _) rfl
     have z5:=cell_alloc (kk.cell hkc2 trivial) (.map #[ent 4 67 0,ent 5 68 1] 2)
     have kM:=(Keep.refl (fun _=>True) w').alloc (.map #[ent 4 67 0,ent 5 68 1] 2)
     obtain⟨r,w9,z6,k9,row9⟩:=put_front (w'.alloc (.map #[ent 4 67 0,ent 5 68 1] 2)) (HR.out.keep kM (fun _ _=>trivial)) (by simp) (by simp) (Nat.le_trans kw'.size kM.size) 68
     have z6b:(Builtin.append_ #[140,140] 140 #[.slice (some ⟨w'.heap.size+1,0,none⟩) 1 1,.slice A6 n6 c6]).run Tryz.prog ((w'.alloc (.map #[ent 4 67 0,ent 5 68 1] 2)).alloc (.cells #[.int .i64 68,.slice none 0 0] 143))=.ok r w9:=by rw [←World.size_alloc w' (.map #[ent 4 67 0,ent 5 68 1] 2)];exact z6
     have HAP:=Lib.hid z6b
     clear z6 z6b
     go_wp2_with (at_builtin;refine wpList_append_eq rfl _ _ 140 rfl _ _ _ _ rfl rfl HAP.out ?_)
     go_ret
     exact⟨_,rfl,(kw'.trans kM).trans k9,by simpa [shortP,h0]using row9⟩
    ·have f0:((n:Int)==0)=false:=by simpa using h0
     go_wp2
     go_ret
     exact⟨_,rfl,kw',by simpa [shortP,h0,h256]using HR.out⟩
   ·have f256:decide ((n:Int)<256)=false:=by simpa using (by omega:¬(n:Int)<256)
    have f0:((n:Int)==0)=false:=by simpa using (by omega:¬n=0)
    have h0:¬n=0:=by omega
    go_wp2
    go_ret
    exact⟨_,rfl,kw,by simpa [shortP,h0,h256]using HR0.out⟩
  ·have hsgn:=sgn_wrap n hn
   by_cases h1:-128≤sgn n∧sgn n<128
   ·have f1:decide (-128≤wrap64 (n:Int))=true:=by rw [hsgn];simpa using h1.1
    have f2:decide (wrap64 (n:Int)<128)=true:=by rw [hsgn];simpa using h1.2
    go_wp2_with fail
    rename_i hK
    refine ins_region_14 (c:=84) rfl rfl rfl rfl hkc2 hn rfl (by omega) HR0.out (by simp) (by simp) ?_
    intro a' w' ag kk row
    obtain⟨s6,h6⟩:∃s,a'.eval (.tmp 6)=s:=⟨_,rfl⟩
    rw [h6]at row
    have e:=ag.eq
    simp only [setAll,h6,List.set_cons_succ,List.set_cons_zero]at e
    generalize a'.eval (.tmp 61)=x0 at e
    generalize a'.eval (.tmp 62)=x1 at e
    generalize a'.eval (.tmp 63)=x2 at e
    generalize a'.eval (.tmp 64)=x3 at e
    generalize a'.eval (.tmp 65)=x4 at e
    generalize a'.eval (.tmp 66)=x5 at e
    generalize a'.eval (.tmp 67)=x6 at e
    generalize a'.eval (.tmp 68)=x7 at e
    generalize a'.eval (.tmp 69)=x8 at e
    generalize a'.eval (.tmp 70)=x9 at e
    generalize a'.eval (.tmp 71)=x10 at e
    subst e
    refine hK _ _ ?_
    obtain⟨A6,n6,c6,rfl⟩:∃A n c,s6=.slice A n c:=(let ⟨A,c,e⟩:=row.shape;⟨A,_,c,e⟩)
    have kw':=kw.trans kk
    have HR:=Lib.hid row
    go_wp2
    go_ret
    exact⟨_,rfl,kw',by simpa [shortP,h1]using HR.out⟩
   ·by_cases h2:-128≤sgn n
    ·have f1:decide (-128≤wrap64 (n:Int))=true:=by rw [hsgn];simpa using h2
     have f2:decide (wrap64 (n:Int)<128)=false:=by rw [hsgn];simpa using (by omega:¬sgn n<128)
     go_wp2
     go_ret
     exact⟨_,rfl,kw,by simpa [shortP,h1]using HR0.out⟩
    ·have f1:decide (-128≤wrap64 (n:Int))=false:=by rw [hsgn];simpa using h2
     go_wp2
     go_ret
     exact⟨_,rfl,kw,by simpa [shortP,h1]using HR0.out⟩
  ·have hsgn:=sgn_wrap n hn
   by_cases h1:-128≤sgn n∧sgn n<128
   ·have f1:decide (-128≤wrap64 (n:Int))=true:=by rw [hsgn];simpa using h1.1
    have f2:decide (wrap64 (n:Int)<128)=true:=by rw [hsgn];simpa using h1.2
    go_wp2_with fail
    rename_i hK
    refine ins_region_14 (c:=85) rfl rfl rfl rfl hkc2 hn rfl (by omega) HR0.out (by simp) (by simp) ?_
    intro a' w' ag kk row
    obtain⟨s6,h6⟩:∃s,a'.eval (.tmp 6)=s:=⟨_,rfl⟩
    rw [h6]at row
    have e:=ag.eq
    simp only [setAll,h6,List.set_cons_succ,List.set_cons_zero]at e
    generalize a'.eval (.tmp 61)=x0 at e
    generalize a'.eval (.tmp 62)=x1 at e
    generalize a'.eval (.tmp 63)=x2 at e
    generalize a'.eval (.tmp 64)=x3 at e
    generalize a'.eval (.tmp 65)=x4 at e
    generalize a'.eval (.tmp 66)=x5 at e
    generalize a'.eval (.tmp 67)=x6 at e
    generalize a'.eval (.tmp 68)=x7 at e
    generalize a'.eval (.tmp 69)=x8 at e
    generalize a'.eval (.tmp 70)=x9 at e
    generalize a'.eval (.tmp 71)=x10 at e
    subst e
    refine hK _ _ ?_
    obtain⟨A6,n6,c6,rfl⟩:∃A n c,s6=.slice A n c:=(let ⟨A,c,e⟩:=row.shape;⟨A,_,c,e⟩)
    have kw':=kw.trans kk
    have HR:=Lib.hid row
    go_wp2
    go_ret
    exact⟨_,rfl,kw',by simpa [shortP,h1]using HR.out⟩
   ·by_cases h2:-128≤sgn n
    ·have f1:decide (-128≤wrap64 (n:Int))=true:=by rw [hsgn];simpa using h2
     have f2:decide (wrap64 (n:Int)<128)=false:=by rw [hsgn];simpa using (by omega:¬sgn n<128)
     go_wp2
     go_ret
     exact⟨_,rfl,kw,by simpa [shortP,h1]using HR0.out⟩
    ·have f1:decide (-128≤wrap64 (n:Int))=false:=by rw [hsgn];simpa using h2
     go_wp2
     go_ret
     exact⟨_,rfl,kw,by simpa [shortP,h1]using HR0.out⟩
end Go.Proofs.YtfoegolfadhmjaaGreatDoor
namespace Go.Proofs.YtfoegolfadhmjaaGreatDoor
open Go.RowKit Go.WideShapes
def isNum(k:Int):Prop:=k=2∨k=3∨k=4∨k=5∨k=6∨k=7∨k=8∨k=9∨k=10∨k=11∨k=16
theorem row_made{X:World}{base:Nat}{ps:List (UInt8×List UInt8)}{cells:List Value}(hb:base≤X.heap.size)(hn:ps.length≤1000)(hd:Dep (fun b=>base≤b) X (fun w=>Pcs w ps cells)):
 RowG 143 2 Pcs (X.alloc (.cells cells.toArray 143)) base (.slice (some ⟨X.heap.size,0,none⟩) ps.length ps.length) ps:=by
 have kN:=(Keep.refl (fun _=>True) X).alloc (.cells cells.toArray 143)
 have hlen:=pieceCells.len hd.here
 exact⟨cells,⟨hlen,.inr ⟨X.heap.size,ps.length,cells.toArray,rfl,hb,blk_new X _,Nat.le_refl _,by unfold maxLen;omega,by simp [hlen],by simp [←hlen]⟩⟩,
  hd.step kN.size (fun i hi _=>kN.block i hi trivial) (fun b hb hok=>⟨hok,fun e=>by simp [Value.ownBlock]at e;omega⟩)⟩
theorem RowB.made{X:World}{base:Nat}(hb:base≤X.heap.size)(bs:List UInt8)(hn:bs.length≤1000000000):RowB (X.alloc (.cells (bs.map fun x=>.int .u8 (x.toNat:Int)).toArray 5)) base (.slice (some ⟨X.heap.size,0,none⟩) bs.length bs.length) bs:=
 ⟨by simp,.inr ⟨X.heap.size,bs.length,(bs.map fun x=>.int .u8 (x.toNat:Int)).toArray,rfl,hb,blk_new X _,Nat.le_refl _,by unfold maxLen;omega,by simp,by simp [List.take_of_length_le]⟩⟩
theorem bytes_conv(w:World)(t:List UInt8)(ht:t.length≤1000000000):∃c w',(convert 9 27 (.string ⟨t.toArray⟩)).run Tryz.prog w=.ok (.slice (some ⟨w.heap.size,0,none⟩) t.length c) w'∧New w w'∧Dep (fun b=>b=w.heap.size) w' (fun w'=>SlC w' (.slice (some ⟨w.heap.size,0,none⟩) t.length c) t):=by
 have e:=run_bytes_of_string (P:=Tryz.prog) w 9 27 5 ⟨t.toArray⟩ Tryz.underlying9 Tryz.underlying27 Tryz.underlying5
 have hs:(⟨t.toArray⟩:ByteArray).size=t.length:=by simp [ByteArray.size]
 rw [hs]at e
 refine⟨_,_,e,((Keep.refl (fun _=>True) w).drew).alloc _,fun w2 h2=>?_⟩
 have hb:=(h2 w.heap.size (by simp) rfl).trans (blk_new w.drew _)
 refine⟨_,_,rfl,grownCap_ge _ _ _ _,?_,fun hne=>⟨_,0,rfl,fun j hj=>?_⟩⟩
 ·have:=grownCap_le_maxLen w t.length 0 5 (by unfold maxLen;omega)
  unfold maxLen at this
  exact this
 ·have h3:w2.cell? ⟨w.heap.size,0+j,none⟩=(bytesRow ⟨t.toArray⟩ (grownCap w t.length 0 5))[0+j]? :=by
   simp only [World.cell?,hb]
   rfl
  rw [h3,Nat.zero_add]
  unfold bytesRow
  rw [Array.getElem?_append_left (by simpa using hj)]
  simp [hj]
theorem slb_nil(w:World):SlB w (.slice none 0 0) []:=(RowB.nil (w:=w) (base:=0)).out.here
theorem numbered_is(k:Int)(hk:isNum k)(n:Nat)(hn:n<18446744073709551616)(t:List UInt8)(A1 A2:Option Addr)(a c1 b c2:Nat)(o:Int)(w:World):
 Calls Tryz.prog 85 #[.agg #[.int .i64 k,.int .u64 (n:Int),.string ⟨t.toArray⟩,.slice A1 a c1,.int .i64 o,.slice A2 b c2]] w fun e w'=>∃sl,e=.returned sl∧New w w'∧RowG 143 2 Pcs w' w.heap.size sl (pcs (.mk k n t [] o [])):=by
 have one:∀(k:Int) (code:UInt8) (s:Nat),s≤8→(codedL.lookup k).getD 0=(code.toNat:Int)→fixedV k=s→(k==4)=false→(k==5)=false→(k==8)=false→(k==9)=false→pcs (.mk k n t [] o [])=[(code,beB s n)]→Calls Tryz.prog 85 #[.agg #[.int .i64 k,.int .u64 (n:Int),.string ⟨t.toArray⟩,.slice A1 a c1,.int .i64 o,.slice A2 b c2]] w fun e w'=>∃sl,e=.returned sl∧New w w'∧RowG 143 2 Pcs w' w.heap.size sl (pcs (.mk k n t [] o [])):=by
  intro k code s hs hc hf h4 h5 h8 h9 hp
  rw [hp]
  exact numbered_one fixed_is k code s hs hc hf h4 h5 h8 h9 n hn t A1 A2 a c1 b c2 o w
 have two:∀(k:Int) (code:UInt8) (s:Nat),s≤8→(codedL.lookup k).getD 0=(code.toNat:Int)→fixedV k=s→(k=4∨k=5∨k=8∨k=9)→pcs (.mk k n t [] o [])=shortP k n++[(code,beB s n)]→Calls Tryz.prog 85 #[.agg #[.int .i64 k,.int .u64 (n:Int),.string ⟨t.toArray⟩,.slice A1 a c1,.int .i64 o,.slice A2 b c2]] w fun e w'=>∃sl,e=.returned sl∧New w w'∧RowG 143 2 Pcs w' w.heap.size sl (pcs (.mk k n t [] o [])):=by
  intro k code s hs hc hf h4 hp
  rw [hp]
  exact numbered_two fixed_is k code s hs hc hf h4 n hn t A1 A2 a c1 b c2 o w
 rcases hk with rfl | rfl | rfl | rfl | rfl | rfl | rfl | rfl | rfl | rfl | rfl
 ·exact one 2 80 1 (by omega) rfl rfl rfl rfl rfl rfl rfl
 ·exact one 3 96 2 (by omega) rfl rfl rfl rfl rfl rfl rfl
 ·exact two 4 112 4 (by omega) rfl rfl (by simp) (by simp [pcs,shortP])
 ·exact two 5 128 8 (by omega) rfl rfl (by simp) (by simp [pcs,shortP])
 ·exact one 6 81 1 (by omega) rfl rfl rfl rfl rfl rfl rfl
 ·exact one 7 97 2 (by omega) rfl rfl rfl rfl rfl rfl rfl
 ·exact two 8 113 4 (by omega) rfl rfl (by simp) (by simp [pcs,shortP])
 ·exact two 9 129 8 (by omega) rfl rfl (by simp) (by simp [pcs,shortP])
 ·exact one 10 114 4 (by omega) rfl rfl rfl rfl rfl rfl rfl
 ·exact one 11 130 8 (by omega) rfl rfl rfl rfl rfl rfl rfl
 ·exact one 16 131 8 (by omega) rfl rfl rfl rfl rfl rfl rfl
theorem pieces_num(k:Int)(hk:isNum k)(n:Nat)(hn:n<18446744073709551616)(t:List UInt8)(A1 A2:Option Addr)(a c1 b c2:Nat)(o:Int)(f:Value)(w:World):
 Calls Tryz.prog 62 #[f,.agg #[.int .i64 k,.int .u64 (n:Int),.string ⟨t.toArray⟩,.slice A1 a c1,.int .i64 o,.slice A2 b c2]] w fun e w'=>∃sl,e=.returned sl∧New w w'∧RowG 143 2 Pcs w' w.heap.size sl (pcs (.mk k n t [] o [])):=by
 have H:=Lib.hid (fun w=>numbered_is k hk n hn t A1 A2 a c1 b c2 o w)
 have kb:=(Keep.refl (fun _=>True) w).alloc (.cells #[.int .i64 k,.int .u64 (n:Int),.string ⟨t.toArray⟩,.slice A1 a c1,.int .i64 o,.slice A2 b c2] 78)
 have hz:=kb.size
 go_enter Tryz.func62,Tryz.ntmps62
 rcases hk with rfl | rfl | rfl | rfl | rfl | rfl | rfl | rfl | rfl | rfl | rfl
 all_goals
  go_wp2_with fail
  refine(H.out _).mono ?_
  rintro e w1 ⟨sl,rfl,k1,row⟩
  go_wp2
  go_ret
  exact⟨_,rfl,kb.trans k1,row.mono hz⟩
theorem pieces_null(n:Nat)(t:List UInt8)(A1 A2:Option Addr)(a c1 b c2:Nat)(o:Int)(f:Value)(w:World):
 Calls Tryz.prog 62 #[f,.agg #[.int .i64 0,.int .u64 (n:Int),.string ⟨t.toArray⟩,.slice A1 a c1,.int .i64 o,.slice A2 b c2]] w fun e w'=>∃sl,e=.returned sl∧New w w'∧RowG 143 2 Pcs w' w.heap.size sl [(64,[])]:=by
 have kb:=(Keep.refl (fun _=>True) w).alloc (.cells #[.int .i64 0,.int .u64 (n:Int),.string ⟨t.toArray⟩,.slice A1 a c1,.int .i64 o,.slice A2 b c2] 78)
 go_enter Tryz.func62,Tryz.ntmps62
 go_wp2
 go_ret
 have R:=row_made (ps:=[(64,[])]) (cells:=[.int .i64 64,.slice none 0 0]) kb.size (by simp) (fun w' _=>.cons (slb_nil w').toC .nil)
 simp only [World.size_alloc]at R
 exact⟨_,rfl,kb.alloc _,R⟩
theorem pieces_bool(n:Nat)(hn:n≤1)(t:List UInt8)(A1 A2:Option Addr)(a c1 b c2:Nat)(o:Int)(f:Value)(w:World):
 Calls Tryz.prog 62 #[f,.agg #[.int .i64 1,.int .u64 (n:Int),.string ⟨t.toArray⟩,.slice A1 a c1,.int .i64 o,.slice A2 b c2]] w fun e w'=>∃sl,e=.returned sl∧New w w'∧RowG 143 2 Pcs w' w.heap.size sl [(UInt8.ofNat (66-n),[]),(86,beB 1 n)]:=by
 have kb:=(Keep.refl (fun _=>True) w).alloc (.cells #[.int .i64 1,.int .u64 (n:Int),.string ⟨t.toArray⟩,.slice A1 a c1,.int .i64 o,.slice A2 b c2] 78)
 obtain rfl | rfl:n=0∨n=1:=by omega
 ·go_enter Tryz.func62,Tryz.ntmps62
  go_wp2
  go_ret
  have kc:=kb.alloc (.cells #[.int .u8 0] 5)
  have d:=(RowB.made kb.size [0] (by simp)).out
  simp only [World.size_alloc]at d
  have R:=row_made (ps:=[(66,[]),(86,[0])]) (cells:=[.int .i64 66,.slice none 0 0,.int .i64 86,.slice (some ⟨w.heap.size+1,0,none⟩) 1 1]) kc.size (by simp) (d.imp fun w' h=>.cons (slb_nil w').toC (.cons h.toC .nil))
  simp only [World.size_alloc]at R
  exact⟨_,rfl,kc.alloc _,R⟩
 ·go_enter Tryz.func62,Tryz.ntmps62
  go_wp2
  go_ret
  have kc:=kb.alloc (.cells #[.int .u8 1] 5)
  have d:=(RowB.made kb.size [1] (by simp)).out
  simp only [World.size_alloc]at d
  have R:=row_made (ps:=[(65,[]),(86,[1])]) (cells:=[.int .i64 65,.slice none 0 0,.int .i64 86,.slice (some ⟨w.heap.size+1,0,none⟩) 1 1]) kc.size (by simp) (d.imp fun w' h=>.cons (slb_nil w').toC (.cons h.toC .nil))
  simp only [World.size_alloc]at R
  exact⟨_,rfl,kc.alloc _,R⟩
theorem pieces_text(k:Int)(c8 c32:UInt8)(hk:k=18∧c8=160∧c32=176∨k=19∧c8=161∧c32=177∨k=20∧c8=163∧c32=179)(n:Nat)(t:List UInt8)(ht:t.length≤1000000000)(A1 A2:Option Addr)(a c1 b c2:Nat)(o:Int)(f:Value)(w:World):
 Calls Tryz.prog 62 #[f,.agg #[.int .i64 k,.int .u64 (n:Int),.string ⟨t.toArray⟩,.slice A1 a c1,.int .i64 o,.slice A2 b c2]] w fun e w'=>∃sl,e=.returned sl∧New w w'∧RowG 143 2 Pcs w' w.heap.size sl (lng c8 c32 t):=by
 have kb:=(Keep.refl (fun _=>True) w).alloc (.cells #[.int .i64 k,.int .u64 (n:Int),.string ⟨t.toArray⟩,.slice A1 a c1,.int .i64 o,.slice A2 b c2] 78)
 have hz:=kb.size
 go_enter Tryz.func62,Tryz.ntmps62
 rcases hk with⟨rfl,rfl,rfl⟩ | ⟨rfl,rfl,rfl⟩ | ⟨rfl,rfl,rfl⟩
 ·obtain⟨cc,wv,hcv,kv,hd⟩:=bytes_conv (w.alloc (.cells #[.int .i64 18,.int .u64 (n:Int),.string ⟨t.toArray⟩,.slice A1 a c1,.int .i64 o,.slice A2 b c2] 78)) t ht
  simp only [World.size_alloc]at hcv hd
  have H:=Lib.hid (lengthed_t 160 176 _ t wv hd.here ht)
  clear hd
  go_wp2_with fail
  refine H.out.mono ?_
  rintro e w1 ⟨sl,rfl,k1,row⟩
  go_wp2
  go_ret
  exact⟨_,rfl,(kb.trans kv).trans k1,row.mono (kb.trans kv).size⟩
 ·obtain⟨cc,wv,hcv,kv,hd⟩:=bytes_conv (w.alloc (.cells #[.int .i64 19,.int .u64 (n:Int),.string ⟨t.toArray⟩,.slice A1 a c1,.int .i64 o,.slice A2 b c2] 78)) t ht
  simp only [World.size_alloc]at hcv hd
  have H:=Lib.hid (lengthed_t 161 177 _ t wv hd.here ht)
  clear hd
  go_wp2_with fail
  refine H.out.mono ?_
  rintro e w1 ⟨sl,rfl,k1,row⟩
  go_wp2
  go_ret
  exact⟨_,rfl,(kb.trans kv).trans k1,row.mono (kb.trans kv).size⟩
 ·obtain⟨cc,wv,hcv,kv,hd⟩:=bytes_conv (w.alloc (.cells #[.int .i64 20,.int .u64 (n:Int),.string ⟨t.toArray⟩,.slice A1 a c1,.int .i64 o,.slice A2 b c2] 78)) t ht
  simp only [World.size_alloc]at hcv hd
  have H:=Lib.hid (lengthed_t 163 179 _ t wv hd.here ht)
  clear hd
  go_wp2_with fail
  refine H.out.mono ?_
  rintro e w1 ⟨sl,rfl,k1,row⟩
  go_wp2
  go_ret
  exact⟨_,rfl,(kb.trans kv).trans k1,row.mono (kb.trans kv).size⟩
structure UInv(w0:World)(B:Nat)(t:List UInt8)(l:Nat→Bool)(x:Nat→Value)(w:World):Prop where
 nw:New w0 w
 t0:l 0=true→x 31=.pointer (some ⟨B,0,none⟩)
 t1:l 1=true→x 32=.int .i64 17
 t2:l 2=true→x 33=.int .i64 152
 t3:l 3=true→x 34=.pointer (some ⟨B,2,none⟩)
 t4:l 4=true→x 35=.string ⟨t.toArray⟩
 p5:l 5=true→Dep (fun b=>w0.heap.size≤b) w (fun w=>SlC w (x 36) t)
 p6:l 6=true→∃v,x 37=.agg #[.int .i64 152,v]∧Dep (fun b=>w0.heap.size≤b) w (fun w=>SlC w v t)
 p7:l 7=true→RowG 143 2 Pcs w w0.heap.size (x 38) [(152,t)]
 p8:l 8=true→x 4=x 38
 d8:l 8=true→l 7=true
theorem UInv.world{w0:World}{B:Nat}{t:List UInt8}{l:Nat→Bool}{x:Nat→Value}{w:World}{w':World}(h:UInv w0 B t l x w)(kk:New w w'):UInv w0 B t l x w':=
 ⟨h.nw.trans kk,h.t0,h.t1,h.t2,h.t3,h.t4,fun a=>(h.p5 a).new kk,fun a=>let ⟨v,e1,e2⟩:=h.p6 a;⟨v,e1,e2.new kk⟩,fun a=>(h.p7 a).keep kk (fun _ _=>trivial),h.p8,h.d8⟩
theorem UInv.s0{w0:World}{B:Nat}{t:List UInt8}{l:Nat→Bool}{x:Nat→Value}{w:World}(h:UInv w0 B t l x w):UInv w0 B t (up l 0 true) (up x 31 (.pointer (some ⟨B,0,none⟩))) w:=by
 constructor
 case nw=>first | (simpa [up]using h.nw) | (intro a;have:=h.nw (by simpa [up]using a);simp [up,this])
 case t0=>intro _;simp [up]
 case t1=>first | (simpa [up]using h.t1) | (intro a;have:=h.t1 (by simpa [up]using a);simp [up,this])
 case t2=>first | (simpa [up]using h.t2) | (intro a;have:=h.t2 (by simpa [up]using a);simp [up,this])
 case t3=>first | (simpa [up]using h.t3) | (intro a;have:=h.t3 (by simpa [up]using a);simp [up,this])
 case t4=>first | (simpa [up]using h.t4) | (intro a;have:=h.t4 (by simpa [up]using a);simp [up,this])
 case p5=>first | (simpa [up]using h.p5) | (intro a;have:=h.p5 (by simpa [up]using a);simp [up,this])
 case p6=>first | (simpa [up]using h.p6) | (intro a;have:=h.p6 (by simpa [up]using a);simp [up,this])
 case p7=>first | (simpa [up]using h.p7) | (intro a;have:=h.p7 (by simpa [up]using a);simp [up,this])
 case d8=>first | (simpa [up]using h.d8) | (intro a;have:=h.d8 (by simpa [up]using a);simp [up,this])
 case p8=>first | (simpa [up]using h.p8) | (intro a;have:=h.p8 (by simpa [up]using a);simp [up,this])
theorem UInv.s1{w0:World}{B:Nat}{t:List UInt8}{l:Nat→Bool}{x:Nat→Value}{w:World}(h:UInv w0 B t l x w):UInv w0 B t (up l 1 true) (up x 32 (.int .i64 17)) w:=by
 constructor
 case nw=>first | (simpa [up]using h.nw) | (intro a;have:=h.nw (by simpa [up]using a);simp [up,this])
 case t0=>first | (simpa [up]using h.t0) | (intro a;have:=h.t0 (by simpa [up]using a);simp [up,this])
 case t1=>intro _;simp [up]
 case t2=>first | (simpa [up]using h.t2) | (intro a;have:=h.t2 (by simpa [up]using a);simp [up,this])
 case t3=>first | (simpa [up]using h.t3) | (intro a;have:=h.t3 (by simpa [up]using a);simp [up,this])
 case t4=>first | (simpa [up]using h.t4) | (intro a;have:=h.t4 (by simpa [up]using a);simp [up,this])
 case p5=>first | (simpa [up]using h.p5) | (intro a;have:=h.p5 (by simpa [up]using a);simp [up,this])
 case p6=>first | (simpa [up]using h.p6) | (intro a;have:=h.p6 (by simpa [up]using a);simp [up,this])
 case p7=>first | (simpa [up]using h.p7) | (intro a;have:=h.p7 (by simpa [up]using a);simp [up,this])
 case d8=>first | (simpa [up]using h.d8) | (intro a;have:=h.d8 (by simpa [up]using a);simp [up,this])
 case p8=>first | (simpa [up]using h.p8) | (intro a;have:=h.p8 (by simpa [up]using a);simp [up,this])
theorem UInv.s2{w0:World}{B:Nat}{t:List UInt8}{l:Nat→Bool}{x:Nat→Value}{w:World}(h:UInv w0 B t l x w):UInv w0 B t (up l 2 true) (up x 33 (.int .i64 152)) w:=by
 constructor
 case nw=>first | (simpa [up]using h.nw) | (intro a;have:=h.nw (by simpa [up]using a);simp [up,this])
 case t0=>first | (simpa [up]using h.t0) | (intro a;have:=h.t0 (by simpa [up]using a);simp [up,this])
 case t1=>first | (simpa [up]using h.t1) | (intro a;have:=h.t1 (by simpa [up]using a);simp [up,this])
 case t2=>intro _;simp [up]
 case t3=>first | (simpa [up]using h.t3) | (intro a;have:=h.t3 (by simpa [up]using a);simp [up,this])
 case t4=>first | (simpa [up]using h.t4) | (intro a;have:=h.t4 (by simpa [up]using a);simp [up,this])
 case p5=>first | (simpa [up]using h.p5) | (intro a;have:=h.p5 (by simpa [up]using a);simp [up,this])
 case p6=>first | (simpa [up]using h.p6) | (intro a;have:=h.p6 (by simpa [up]using a);simp [up,this])
 case p7=>first | (simpa [up]using h.p7) | (intro a;have:=h.p7 (by simpa [up]using a);simp [up,this])
 case d8=>first | (simpa [up]using h.d8) | (intro a;have:=h.d8 (by simpa [up]using a);simp [up,this])
 case p8=>first | (simpa [up]using h.p8) | (intro a;have:=h.p8 (by simpa [up]using a);simp [up,this])
theorem UInv.s3{w0:World}{B:Nat}{t:List UInt8}{l:Nat→Bool}{x:Nat→Value}{w:World}(h:UInv w0 B t l x w):UInv w0 B t (up l 3 true) (up x 34 (.pointer (some ⟨B,2,none⟩))) w:=by
 constructor
 case nw=>first | (simpa [up]using h.nw) | (intro a;have:=h.nw (by simpa [up]using a);simp [up,this])
 case t0=>first | (simpa [up]using h.t0) | (intro a;have:=h.t0 (by simpa [up]using a);simp [up,this])
 case t1=>first | (simpa [up]using h.t1) | (intro a;have:=h.t1 (by simpa [up]using a);simp [up,this])
 case t2=>first | (simpa [up]using h.t2) | (intro a;have:=h.t2 (by simpa [up]using a);simp [up,this])
 case t3=>intro _;simp [up]
 case t4=>first | (simpa [up]using h.t4) | (intro a;have:=h.t4 (by simpa [up]using a);simp [up,this])
 case p5=>first | (simpa [up]using h.p5) | (intro a;have:=h.p5 (by simpa [up]using a);simp [up,this])
 case p6=>first | (simpa [up]using h.p6) | (intro a;have:=h.p6 (by simpa [up]using a);simp [up,this])
 case p7=>first | (simpa [up]using h.p7) | (intro a;have:=h.p7 (by simpa [up]using a);simp [up,this])
 case d8=>first | (simpa [up]using h.d8) | (intro a;have:=h.d8 (by simpa [up]using a);simp [up,this])
 case p8=>first | (simpa [up]using h.p8) | (intro a;have:=h.p8 (by simpa [up]using a);simp [up,this])
theorem UInv.s4{w0:World}{B:Nat}{t:List UInt8}{l:Nat→Bool}{x:Nat→Value}{w:World}(h:UInv w0 B t l x w):UInv w0 B t (up l 4 true) (up x 35 (.string ⟨t.toArray⟩)) w:=by
 constructor
 case nw=>first | (simpa [up]using h.nw) | (intro a;have:=h.nw (by simpa [up]using a);simp [up,this])
 case t0=>first | (simpa [up]using h.t0) | (intro a;have:=h.t0 (by simpa [up]using a);simp [up,this])
 case t1=>first | (simpa [up]using h.t1) | (intro a;have:=h.t1 (by simpa [up]using a);simp [up,this])
 case t2=>first | (simpa [up]using h.t2) | (intro a;have:=h.t2 (by simpa [up]using a);simp [up,this])
 case t3=>first | (simpa [up]using h.t3) | (intro a;have:=h.t3 (by simpa [up]using a);simp [up,this])
 case t4=>intro _;simp [up]
 case p5=>first | (simpa [up]using h.p5) | (intro a;have:=h.p5 (by simpa [up]using a);simp [up,this])
 case p6=>first | (simpa [up]using h.p6) | (intro a;have:=h.p6 (by simpa [up]using a);simp [up,this])
 case p7=>first | (simpa [up]using h.p7) | (intro a;have:=h.p7 (by simpa [up]using a);simp [up,this])
 case d8=>first | (simpa [up]using h.d8) | (intro a;have:=h.d8 (by simpa [up]using a);simp [up,this])
 case p8=>first | (simpa [up]using h.p8) | (intro a;have:=h.p8 (by simpa [up]using a);simp [up,this])
theorem UInv.s5{w0:World}{B:Nat}{t:List UInt8}{l:Nat→Bool}{x:Nat→Value}{w:World}{v:Value}(h:UInv w0 B t l x w)(hv:Dep (fun b=>w0.heap.size≤b) w (fun w=>SlC w v t)):UInv w0 B t (up l 5 true) (up x 36 v) w:=by
 constructor
 case nw=>first | (simpa [up]using h.nw) | (intro a;have:=h.nw (by simpa [up]using a);simp [up,this])
 case t0=>first | (simpa [up]using h.t0) | (intro a;have:=h.t0 (by simpa [up]using a);simp [up,this])
 case t1=>first | (simpa [up]using h.t1) | (intro a;have:=h.t1 (by simpa [up]using a);simp [up,this])
 case t2=>first | (simpa [up]using h.t2) | (intro a;have:=h.t2 (by simpa [up]using a);simp [up,this])
 case t3=>first | (simpa [up]using h.t3) | (intro a;have:=h.t3 (by simpa [up]using a);simp [up,this])
 case t4=>first | (simpa [up]using h.t4) | (intro a;have:=h.t4 (by simpa [up]using a);simp [up,this])
 case p5=>intro _;simpa [up]using hv
 case p6=>first | (simpa [up]using h.p6) | (intro a;have:=h.p6 (by simpa [up]using a);simp [up,this])
 case p7=>first | (simpa [up]using h.p7) | (intro a;have:=h.p7 (by simpa [up]using a);simp [up,this])
 case d8=>first | (simpa [up]using h.d8) | (intro a;have:=h.d8 (by simpa [up]using a);simp [up,this])
 case p8=>first | (simpa [up]using h.p8) | (intro a;have:=h.p8 (by simpa [up]using a);simp [up,this])
theorem UInv.s6{w0:World}{B:Nat}{t:List UInt8}{l:Nat→Bool}{x:Nat→Value}{w:World}(h:UInv w0 B t l x w)(h2:l 2=true)(h5:l 5=true):UInv w0 B t (up l 6 true) (up x 37 (.agg #[x 33,x 36])) w:=by
 constructor
 case nw=>first | (simpa [up]using h.nw) | (intro a;have:=h.nw (by simpa [up]using a);simp [up,this])
 case t0=>first | (simpa [up]using h.t0) | (intro a;have:=h.t0 (by simpa [up]using a);simp [up,this])
 case t1=>first | (simpa [up]using h.t1) | (intro a;have:=h.t1 (by simpa [up]using a);simp [up,this])
 case t2=>first | (simpa [up]using h.t2) | (intro a;have:=h.t2 (by simpa [up]using a);simp [up,this])
 case t3=>first | (simpa [up]using h.t3) | (intro a;have:=h.t3 (by simpa [up]using a);simp [up,this])
 case t4=>first | (simpa [up]using h.t4) | (intro a;have:=h.t4 (by simpa [up]using a);simp [up,this])
 case p5=>first | (simpa [up]using h.p5) | (intro a;have:=h.p5 (by simpa [up]using a);simp [up,this])
 case p6=>intro _;exact⟨x 36,by simp [up,h.t2 h2],h.p5 h5⟩
 case p7=>first | (simpa [up]using h.p7) | (intro a;have:=h.p7 (by simpa [up]using a);simp [up,this])
 case d8=>first | (simpa [up]using h.d8) | (intro a;have:=h.d8 (by simpa [up]using a);simp [up,this])
 case p8=>first | (simpa [up]using h.p8) | (intro a;have:=h.p8 (by simpa [up]using a);simp [up,this])
theorem UInv.s7{w0:World}{B:Nat}{t:List UInt8}{l:Nat→Bool}{x:Nat→Value}{w:World}(h:UInv w0 B t l x w)(h6:l 6=true)(h8:l 8=false):∃A m c,x 37=.agg #[.int .i64 152,.slice A m c]∧UInv w0 B t (up l 7 true) (up x 38 (.slice (some ⟨w.heap.size,0,none⟩) 1 1)) (w.alloc (.cells #[.int .i64 152,.slice A m c] 143)):=by
 obtain⟨v,e1,e2⟩:=h.p6 h6
 obtain⟨A,c,hv,_⟩:=e2.here
 subst hv
 have kN:=(Keep.refl (fun _=>True) w).alloc (.cells #[.int .i64 152,.slice A t.length c] 143)
 have g:=h.world kN
 refine⟨A,t.length,c,e1,?_⟩
 constructor
 case nw=>first | (simpa [up]using g.nw) | (intro a;have:=g.nw (by simpa [up]using a);simp [up,this])
 case t0=>first | (simpa [up]using g.t0) | (intro a;have:=g.t0 (by simpa [up]using a);simp [up,this])
 case t1=>first | (simpa [up]using g.t1) | (intro a;have:=g.t1 (by simpa [up]using a);simp [up,this])
 case t2=>first | (simpa [up]using g.t2) | (intro a;have:=g.t2 (by simpa [up]using a);simp [up,this])
 case t3=>first | (simpa [up]using g.t3) | (intro a;have:=g.t3 (by simpa [up]using a);simp [up,this])
 case t4=>first | (simpa [up]using g.t4) | (intro a;have:=g.t4 (by simpa [up]using a);simp [up,this])
 case p5=>first | (simpa [up]using g.p5) | (intro a;have:=g.p5 (by simpa [up]using a);simp [up,this])
 case p6=>first | (simpa [up]using g.p6) | (intro a;have:=g.p6 (by simpa [up]using a);simp [up,this])
 case p7=>
  intro _
  exact row_made (ps:=[(152,t)]) (cells:=[.int .i64 152,.slice A t.length c]) h.nw.size (by simp) (e2.imp fun w h=>.cons h .nil)
 case d8=>intro a;simp [up,h8]at a
 case p8=>intro a;simp [up,h8]at a
theorem UInv.s8{w0:World}{B:Nat}{t:List UInt8}{l:Nat→Bool}{x:Nat→Value}{w:World}(h:UInv w0 B t l x w)(h7:l 7=true):UInv w0 B t (up l 8 true) (up x 4 (x 38)) w:=by
 constructor
 case nw=>first | (simpa [up]using h.nw) | (intro a;have:=h.nw (by simpa [up]using a);simp [up,this])
 case t0=>first | (simpa [up]using h.t0) | (intro a;have:=h.t0 (by simpa [up]using a);simp [up,this])
 case t1=>first | (simpa [up]using h.t1) | (intro a;have:=h.t1 (by simpa [up]using a);simp [up,this])
 case t2=>first | (simpa [up]using h.t2) | (intro a;have:=h.t2 (by simpa [up]using a);simp [up,this])
 case t3=>first | (simpa [up]using h.t3) | (intro a;have:=h.t3 (by simpa [up]using a);simp [up,this])
 case t4=>first | (simpa [up]using h.t4) | (intro a;have:=h.t4 (by simpa [up]using a);simp [up,this])
 case p5=>first | (simpa [up]using h.p5) | (intro a;have:=h.p5 (by simpa [up]using a);simp [up,this])
 case p6=>first | (simpa [up]using h.p6) | (intro a;have:=h.p6 (by simpa [up]using a);simp [up,this])
 case p7=>first | (simpa [up]using h.p7) | (intro a;have:=h.p7 (by simpa [up]using a);simp [up,this])
 case d8=>intro _;simp [up,h7]
 case p8=>intro _;simp [up]
theorem uuid_region{Q:Exit→Act→World→Prop}{F:Act}{w:World}{B:Nat}{t:List UInt8}(ht:t.length≤1000000000)(hF:F.tmps.size=102)(t3:F.eval (.tmp 3)=.pointer (some ⟨B,0,none⟩))
 (hB1:w.cell? ⟨B,0,none⟩=some (.int .i64 17)) (hB4:w.cell? ⟨B,2,none⟩=some (.string ⟨t.toArray⟩))
 (hQ:∀a' w',Agrees F [4,31,32,33,34,35,36,37,38] a'→New w w'→RowG 143 2 Pcs w' w.heap.size (a'.eval (.tmp 4)) [(152,t)]→Q .normal a' w'):
 (Code.region 8 #[{ dst:=some 31,op:=Op.fieldAddr 78 (Operand.tmp 3) 0,type:=0,pos:= "amqp.go:84",after:=#[],guard:=none },{ dst:=some 32,op:=Op.load 3 (Operand.tmp 31),type:=3,pos:= "amqp.go:84",after:=#[{ on:=0,ground:=Ground.data }],guard:=none },{ dst:=some 33,op:=Op.call { callee:=Callee.value (Operand.func 82),args:=#[Operand.tmp 32],argTypes:=#[3] },type:=3,pos:= "amqp.go:84",after:=#[{ on:=1,ground:=Ground.data }],guard:=none },{ dst:=some 34,op:=Op.fieldAddr 78 (Operand.tmp 3) 2,type:=0,pos:= "amqp.go:84",after:=#[],guard:=none },{ dst:=some 35,op:=Op.load 9 (Operand.tmp 34),type:=9,pos:= "amqp.go:84",after:=#[{ on:=3,ground:=Ground.data }],guard:=none },{ dst:=some 36,op:=Op.convert 9 27 (Operand.tmp 35),type:=27,pos:= "amqp.go:84",after:=#[{ on:=4,ground:=Ground.data }],guard:=none },{ dst:=some 37,op:=Op.build 143 #[(0,Operand.tmp 33),(1,Operand.tmp 36)],type:=143,pos:= "amqp.go:84",after:=#[{ on:=2,ground:=Ground.data },{ on:=5,ground:=Ground.data }],guard:=none },{ dst:=some 38,op:=Op.buildSlice 140 1 #[(0,Operand.tmp 37)],type:=140,pos:= "amqp.go:84",after:=#[{ on:=6,ground:=Ground.data }],guard:=none },{ dst:=some 4,op:=Op.assign (Operand.tmp 38),type:=140,pos:= "amqp.go:84",after:=#[{ on:=7,ground:=Ground.data },{ on:=2,ground:=Ground.chain },{ on:=0,ground:=Ground.phase },{ on:=1,ground:=Ground.phase },{ on:=2,ground:=Ground.phase },{ on:=3,ground:=Ground.phase },{ on:=4,ground:=Ground.phase },{ on:=5,ground:=Ground.phase },{ on:=6,ground:=Ground.phase },{ on:=7,ground:=Ground.phase }],guard:=none }] true).wp Tryz.prog Q F w:=by
 refine region_inv (by kernel_rfl) (fun L a w'=>Agrees F [4,31,32,33,34,35,36,37,38] a∧UInv w B t (fun j=>L.getD j false) (fun t=>a.eval (.tmp t)) w') (by kernel_rfl) ?start ?step ?fin
 case start=>
  refine⟨Agrees.refl F _,?_⟩
  constructor
  case nw=>exact(Keep.refl _ w).drew
  all_goals (intro a;simp only [rep_off]at a;cases a)
 case fin=>
  intro L a w' hall hI
  have h7:=hI.2.p7 (hall 7 (by simp))
  rw [←hI.2.p8 (hall 8 (by simp))]at h7
  exact hQ a w' hI.1 hI.2.nw h7
 case step=>
  intro i o L a w' ho hd hL hs hI
  have hi:=(Array.getElem?_eq_some_iff.1 ho).1
  simp only [List.size_toArray,List.length_cons,List.length_nil]at hi hs
  have kput:∀i,i<9→∀d,d<102→d∈[4,31,32,33,34,35,36,37,38]→∀(v:Value) {w2:World},UInv w B t (up (fun j=>L.getD j false) i true) (up (fun t=>a.eval (.tmp t)) d v) w2→Agrees F [4,31,32,33,34,35,36,37,38] (a.put (some d) v)∧UInv w B t (fun j=>(L.setIfInBounds i true).getD j false) (fun t=>(a.put (some d) v).eval (.tmp t)) w2:=fun i hi d hd hm v w2 h=>⟨hI.1.put hm,by rw [up_L (by omega),up_x (by rw [hI.1.size,hF];exact hd)];exact h⟩
  have hi':i=0∨i=1∨i=2∨i=3∨i=4∨i=5∨i=6∨i=7∨i=8:=by omega
  clear hi
  rcases hi' with rfl | rfl | rfl | rfl | rfl | rfl | rfl | rfl | rfl
  ·have ho':=ho
   simp only [List.getElem?_toArray,List.getElem?_cons_zero,List.getElem?_cons_succ,Option.some.injEq]at ho
   refine wpOp_in ho' (by rw [←ho]) ?_
   subst ho
   clear ho'
   have e0:a.eval (.tmp 3)=.pointer (some ⟨B,0,none⟩):=hI.1.keep 3 (by decide)▸t3
   have hr:(execOp a.eval { dst:=some 31,op:=Op.fieldAddr 78 (Operand.tmp 3) 0,type:=0,pos:= "amqp.go:84",after:=#[],guard:=none }).run Tryz.prog w'=.ok (.value (.pointer (some ⟨B,0,none⟩))) w':=by
    simp only [execOp,e0]
    simp [go_sem]
   simp only [Oper.wp,hr,Oper.upon_value]
   exact kput 0 (by decide) 31 (by decide) (by decide) _ hI.2.s0
  ·have ho':=ho
   simp only [List.getElem?_toArray,List.getElem?_cons_zero,List.getElem?_cons_succ,Option.some.injEq]at ho
   refine wpOp_in ho' (by rw [←ho]) ?_
   subst ho
   clear ho'
   have e0:=hI.2.t0 (hd ⟨0,.data⟩ (by simp) rfl)
   have hB':=hI.2.nw.cell hB1 trivial
   have hr:(execOp a.eval { dst:=some 32,op:=Op.load 3 (Operand.tmp 31),type:=3,pos:= "amqp.go:84",after:=#[{ on:=0,ground:=Ground.data }],guard:=none }).run Tryz.prog w'=.ok (.value (.int .i64 17)) w':=by
    simp only [execOp,e0]
    simp [go_sem,hB']
   simp only [Oper.wp,hr,Oper.upon_value]
   exact kput 1 (by decide) 32 (by decide) (by decide) _ hI.2.s1
  ·have ho':=ho
   simp only [List.getElem?_toArray,List.getElem?_cons_zero,List.getElem?_cons_succ,Option.some.injEq]at ho
   refine wpOp_in ho' (by rw [←ho]) ?_
   subst ho
   clear ho'
   have e0:=hI.2.t1 (hd ⟨1,.data⟩ (by simp) rfl)
   have hr:(execOp a.eval { dst:=some 33,op:=Op.call { callee:=Callee.value (Operand.func 82),args:=#[Operand.tmp 32],argTypes:=#[3] },type:=3,pos:= "amqp.go:84",after:=#[{ on:=1,ground:=Ground.data }],guard:=none }).run Tryz.prog w'=.ok (.enter 82 #[.int .i64 17]) w':=by
    simp [execOp,resolve,go_sem]
    simpa [Act.eval]using e0
   simp only [Oper.wp,hr,Oper.upon]
   refine(coded_is 17 w').mono ?_
   rintro e w2 ⟨rfl,kv⟩
   exact kput 2 (by decide) 33 (by decide) (by decide) _ (hI.2.world kv).s2
  ·have ho':=ho
   simp only [List.getElem?_toArray,List.getElem?_cons_zero,List.getElem?_cons_succ,Option.some.injEq]at ho
   refine wpOp_in ho' (by rw [←ho]) ?_
   subst ho
   clear ho'
   have e0:a.eval (.tmp 3)=.pointer (some ⟨B,0,none⟩):=hI.1.keep 3 (by decide)▸t3
   have hr:(execOp a.eval { dst:=some 34,op:=Op.fieldAddr 78 (Operand.tmp 3) 2,type:=0,pos:= "amqp.go:84",after:=#[],guard:=none }).run Tryz.prog w'=.ok (.value (.pointer (some ⟨B,2,none⟩))) w':=by
    simp only [execOp,e0]
    simp [go_sem]
   simp only [Oper.wp,hr,Oper.upon_value]
   exact kput 3 (by decide) 34 (by decide) (by decide) _ hI.2.s3
  ·have ho':=ho
   simp only [List.getElem?_toArray,List.getElem?_cons_zero,List.getElem?_cons_succ,Option.some.injEq]at ho
   refine wpOp_in ho' (by rw [←ho]) ?_
   subst ho
   clear ho'
   have e0:=hI.2.t3 (hd ⟨3,.data⟩ (by simp) rfl)
   have hB':=hI.2.nw.cell hB4 trivial
   have hr:(execOp a.eval { dst:=some 35,op:=Op.load 9 (Operand.tmp 34),type:=9,pos:= "amqp.go:84",after:=#[{ on:=3,ground:=Ground.data }],guard:=none }).run Tryz.prog w'=.ok (.value (.string ⟨t.toArray⟩)) w':=by
    simp only [execOp,e0]
    simp [go_sem,hB']
   simp only [Oper.wp,hr,Oper.upon_value]
   exact kput 4 (by decide) 35 (by decide) (by decide) _ hI.2.s4
  ·have ho':=ho
   simp only [List.getElem?_toArray,List.getElem?_cons_zero,List.getElem?_cons_succ,Option.some.injEq]at ho
   refine wpOp_in ho' (by rw [←ho]) ?_
   subst ho
   clear ho'
   have e0:=hI.2.t4 (hd ⟨4,.data⟩ (by simp) rfl)
   obtain⟨cc,w2,hcv,kv,hv⟩:=bytes_conv w' t ht
   have hr:(execOp a.eval { dst:=some 36,op:=Op.convert 9 27 (Operand.tmp 35),type:=27,pos:= "amqp.go:84",after:=#[{ on:=4,ground:=Ground.data }],guard:=none }).run Tryz.prog w'=.ok (.value (.slice (some ⟨w'.heap.size,0,none⟩) t.length cc)) w2:=by
    simp only [execOp,e0,Sem.run_bind,hcv,Result.andThen_ok,Sem.run_pure]
   simp only [Oper.wp,hr,Oper.upon_value]
   exact kput 5 (by decide) 36 (by decide) (by decide) _ ((hI.2.world kv).s5 (hv.mono fun b _ e=>by have:=hI.2.nw.size;omega))
  ·have ho':=ho
   simp only [List.getElem?_toArray,List.getElem?_cons_zero,List.getElem?_cons_succ,Option.some.injEq]at ho
   refine wpOp_in ho' (by rw [←ho]) ?_
   subst ho
   clear ho'
   have e6:=hI.2.t2 (hd ⟨2,.data⟩ (by simp) rfl)
   obtain⟨A,cc,e8,_⟩:=(hI.2.p5 (hd ⟨5,.data⟩ (by simp) rfl)).here
   have e9:=hI.2.s6 (hd ⟨2,.data⟩ (by simp) rfl) (hd ⟨5,.data⟩ (by simp) rfl)
   simp only [e6,e8]at e9
   have hr:(execOp a.eval { dst:=some 37,op:=Op.build 143 #[(0,Operand.tmp 33),(1,Operand.tmp 36)],type:=143,pos:= "amqp.go:84",after:=#[{ on:=2,ground:=Ground.data },{ on:=5,ground:=Ground.data }],guard:=none }).run Tryz.prog w'=.ok (.value (.agg #[.int .i64 152,.slice A t.length cc])) w':=by
    simp only [execOp,List.map_toArray,List.map_cons,List.map_nil,e6,e8,Sem.run_bind,build143,Result.andThen_ok,Sem.run_pure]
   simp only [Oper.wp,hr,Oper.upon_value]
   exact kput 6 (by decide) 37 (by decide) (by decide) _ e9
  ·have ho':=ho
   simp only [List.getElem?_toArray,List.getElem?_cons_zero,List.getElem?_cons_succ,Option.some.injEq]at ho
   refine wpOp_in ho' (by rw [←ho]) ?_
   subst ho
   clear ho'
   obtain⟨A,m,cc,e1,e3⟩:=hI.2.s7 (hd ⟨6,.data⟩ (by simp) rfl) (by cases e:L.getD 8 false with | false=>rfl | true=>exact absurd (hI.2.d8 e) (by simp [hL]))
   have hr:(execOp a.eval { dst:=some 38,op:=Op.buildSlice 140 1 #[(0,Operand.tmp 37)],type:=140,pos:= "amqp.go:84",after:=#[{ on:=6,ground:=Ground.data }],guard:=none }).run Tryz.prog w'=.ok (.value (.slice (some ⟨w'.heap.size,0,none⟩) 1 1)) (w'.alloc (.cells #[.int .i64 152,.slice A m cc] 143)):=by
    simp only [execOp,List.map_toArray,List.map_cons,List.map_nil,e1,Sem.run_bind,slice143,Result.andThen_ok,Sem.run_pure]
   simp only [Oper.wp,hr,Oper.upon_value]
   exact kput 7 (by decide) 38 (by decide) (by decide) _ e3
  ·have ho':=ho
   simp only [List.getElem?_toArray,List.getElem?_cons_zero,List.getElem?_cons_succ,Option.some.injEq]at ho
   refine wpOp_in ho' (by rw [←ho]) ?_
   subst ho
   clear ho'
   simp only [Oper.wp,execOp,Sem.run_bind,Result.andThen_ok,Sem.run_pure,Oper.upon_value]
   exact kput 8 (by decide) 4 (by decide) (by decide) _ (hI.2.s8 (hd ⟨7,.data⟩ (by simp) rfl))
theorem pieces_uuid(n:Nat)(t:List UInt8)(ht:t.length=16)(A1 A2:Option Addr)(a c1 b c2:Nat)(o:Int)(f:Value)(w:World):
 Calls Tryz.prog 62 #[f,.agg #[.int .i64 17,.int .u64 (n:Int),.string ⟨t.toArray⟩,.slice A1 a c1,.int .i64 o,.slice A2 b c2]] w fun e w'=>∃sl,e=.returned sl∧New w w'∧RowG 143 2 Pcs w' w.heap.size sl [(152,t)]:=by
 have kb:=(Keep.refl (fun _=>True) w).alloc (.cells #[.int .i64 17,.int .u64 (n:Int),.string ⟨t.toArray⟩,.slice A1 a c1,.int .i64 o,.slice A2 b c2] 78)
 have hz:=kb.size
 have b0:=(blk_cell (blk_new w (.cells #[.int .i64 17,.int .u64 (n:Int),.string ⟨t.toArray⟩,.slice A1 a c1,.int .i64 o,.slice A2 b c2] 78)) 0).trans rfl
 have b2:=(blk_cell (blk_new w (.cells #[.int .i64 17,.int .u64 (n:Int),.string ⟨t.toArray⟩,.slice A1 a c1,.int .i64 o,.slice A2 b c2] 78)) 2).trans rfl
 go_enter Tryz.func62,Tryz.ntmps62
 go_wp2_with fail
 rename_i hK
 refine uuid_region (by omega) rfl rfl b0 b2 ?_
 intro a' w' ag kk row
 obtain⟨s4,h4⟩:∃s,a'.eval (.tmp 4)=s:=⟨_,rfl⟩
 rw [h4]at row
 have e:=ag.eq
 simp only [setAll,h4,List.set_cons_succ,List.set_cons_zero]at e
 generalize a'.eval (.tmp 31)=x0 at e
 generalize a'.eval (.tmp 32)=x1 at e
 generalize a'.eval (.tmp 33)=x2 at e
 generalize a'.eval (.tmp 34)=x3 at e
 generalize a'.eval (.tmp 35)=x4 at e
 generalize a'.eval (.tmp 36)=x5 at e
 generalize a'.eval (.tmp 37)=x6 at e
 generalize a'.eval (.tmp 38)=x7 at e
 subst e
 refine hK _ _ ?_
 have HR:=Lib.hid row
 go_wp2
 go_ret
 exact⟨_,rfl,kb.trans kk,HR.out.mono hz⟩
end Go.Proofs.YtfoegolfadhmjaaGreatDoor
namespace Go.Proofs.YtfoegolfadhmjaaGreatDoor
open Go.RowKit Go.WideShapes
theorem LeafOk.numLt{v:V}(h:LeafOk v):v.num<18446744073709551616:=by
 cases h<;>simp only [V.num]<;>first | omega | (rename_i h;exact h.1)
theorem pieces_leaf{v:V}(h:LeafOk v)(f:Value)(A1 A2:Option Addr)(a c1 b c2:Nat)(w:World):
 Calls Tryz.prog 62 #[f,.agg #[.int .i64 v.kind,.int .u64 (v.num:Int),.string ⟨v.text.toArray⟩,.slice A1 a c1,.int .i64 v.of,.slice A2 b c2]] w fun e w'=>∃sl,e=.returned sl∧New w w'∧RowG 143 2 Pcs w' w.heap.size sl (pcs v):=by
 have hn:=h.numLt
 cases h with
 | null o=>exact pieces_null _ _ A1 A2 a c1 b c2 o f w
 | bool n o h=>exact pieces_bool n h _ A1 A2 a c1 b c2 o f w
 | uuid t o h=>exact pieces_uuid 0 t h A1 A2 a c1 b c2 o f w
 | bin t o h=>exact pieces_text 18 160 176 (by simp) 0 t (by omega) A1 A2 a c1 b c2 o f w
 | str t o h hv=>exact pieces_text 19 161 177 (by simp) 0 t (by omega) A1 A2 a c1 b c2 o f w
 | sym t o h hv=>exact pieces_text 20 163 179 (by simp) 0 t (by omega) A1 A2 a c1 b c2 o f w
 | _=>refine pieces_num _ ?_ _ hn _ A1 A2 a c1 b c2 _ f w;simp [isNum,V.kind]
def elemsD(code:UInt8):List V→List UInt8
 | []=>[]
 | v::r=>(pick1 code (pcs v)).getD []++elemsD code r
def elemsA(code:UInt8)(l:List V):Bool:=l.all fun v=>(pick1 code (pcs v)).isSome
theorem elems_is(code:UInt8):∀l:List V,elems code l=if elemsA code l then some (elemsD code l)else none
 | []=>rfl
 | v::r=>by
   have ih:=elems_is code r
   unfold elems
   rw [ih]
   cases h:pick1 code (pcs v)<;>cases h':elemsA code r<;>simp_all [elemsA,elemsD]
theorem elemsD_snoc(code:UInt8)(l:List V)(v:V):elemsD code (l++[v])=elemsD code l++(pick1 code (pcs v)).getD []:=by
 induction l with
 | nil=>simp [elemsD]
 | cons x l ih=>simp [elemsD,ih]
theorem elemsA_snoc(code:UInt8)(l:List V)(v:V):elemsA code (l++[v])=(elemsA code l&&(pick1 code (pcs v)).isSome):=by
 simp [elemsA,List.all_append]
theorem pick1_snoc(code:UInt8)(l:List (UInt8×List UInt8))(p:UInt8×List UInt8):pick1 code (l++[p])=(pick1 code l).or (if p.1==code then some p.2 else none):=by
 unfold pick1
 rw [List.find?_append]
 cases h:l.find? (fun p=>p.1==code)with
 | some q=>simp
 | none=>
   simp only [Option.none_or,Option.map_none,List.find?_cons,List.find?_nil]
   cases hp:p.1==code<;>simp
theorem pick1_len{v:V}(h:LeafOk v)(code:UInt8):((pick1 code (pcs v)).getD []).length≤wt v:=by
 cases hp:pick1 code (pcs v)with
 | none=>simp
 | some d=>
   have:=(pcs_leaf h _ (pick1_mem hp)).short
   simp at this ⊢
   omega
theorem elemsD_len{code:UInt8}:∀{l:List V},(∀v∈l,LeafOk v)→(elemsD code l).length≤wts l
 | [],_=>by simp [elemsD]
 | v::r,h=>by
   have h1:=pick1_len (h v (List.mem_cons_self ..)) code
   have h2:=elemsD_len (code:=code) fun u hu=>h u (List.mem_cons_of_mem _ hu)
   simp only [elemsD,List.length_append,wts]
   omega
theorem pcs_data_len{v:V}(h:LeafOk v){p:UInt8×List UInt8}(hp:p∈pcs v):p.2.length≤200000:=by
 have h1:=(pcs_leaf h p hp).short
 have h2:wt v≤131084:=by cases h<;>simp [wt,wts]<;>omega
 simp at h1
 omega
theorem leaf_wt{v:V}(h:LeafOk v):wt v≤131084:=by cases h<;>simp [wt,wts]<;>omega
theorem leafs_wt:∀{l:List V},(∀v∈l,LeafOk v)→wts l≤l.length*131084
 | [],_=>by simp [wts]
 | v::r,h=>by
   have h1:=leaf_wt (h v (List.mem_cons_self ..))
   have h2:=leafs_wt fun u hu=>h u (List.mem_cons_of_mem _ hu)
   simp only [wts,List.length_cons]
   omega
def mayOf(codes:List UInt8)(ks:List V):List (UInt8×List UInt8):=codes.flatMap fun c=>if (c !=0)&&elemsA c ks then [(c,elemsD c ks)]else []
theorem mayOf_mem{codes:List UInt8}{ks:List V}{p:UInt8×List UInt8}(h:p∈mayOf codes ks):p.1∈codes∧p.1≠0∧elems p.1 ks=some p.2:=by
 obtain⟨c,hc,hp⟩:=List.mem_flatMap.1 h
 split at hp
 ·rename_i hcond
  rw [List.mem_singleton]at hp
  subst hp
  simp only [Bool.and_eq_true,bne_iff_ne,ne_eq]at hcond
  exact⟨hc,hcond.1,by rw [elems_is,if_pos hcond.2]⟩
 ·simp at hp
theorem long_code{k:Int}(h:1≤k∧k≤11∨16≤k∧k≤20):(codedL.lookup k).getD 0=((longC k).toNat:Int)∧longC k≠0∧(([(4,82),(5,83),(8,84),(9,85),(18,160),(19,161),(20,163)]:List (Int×Int)).lookup k).getD 0=((shortC k).toNat:Int):=by
 have hcs:k=1∨k=2∨k=3∨k=4∨k=5∨k=6∨k=7∨k=8∨k=9∨k=10∨k=11∨k=16∨k=17∨k=18∨k=19∨k=20:=by omega
 rcases hcs with rfl | rfl | rfl | rfl | rfl | rfl | rfl | rfl | rfl | rfl | rfl | rfl | rfl | rfl | rfl | rfl<;>exact⟨rfl,by decide,rfl⟩
theorem mayOf_some{k:Int}{ks:List V}(h:ArrOk k ks):1≤(mayOf [shortC k,longC k] ks).length∧(mayOf [shortC k,longC k] ks).length≤2:=by
 have hk:=h.kind
 obtain⟨_,h0,_⟩:=long_code hk
 obtain⟨d,hd⟩:=elems_long (k:=k) (by omega) fun v hv=>⟨(h.all v hv).1,(h.all v hv).2.1⟩
 rw [elems_is]at hd
 have hA:elemsA (longC k) ks=true:=by
  cases e:elemsA (longC k) ks with
  | true=>rfl
  | false=>rw [e]at hd;simp at hd
 have hl:((longC k !=0)&&elemsA (longC k) ks)=true:=by simp [h0,hA]
 simp only [mayOf,List.flatMap_cons,List.flatMap_nil,hl,if_true,List.append_nil,List.length_append,List.length_singleton]
 split<;>simp
theorem mayOf_enc{k:Int}{ks:List V}(h:ArrOk k ks){p:UInt8×List UInt8}(hp:p∈mayOf [shortC k,longC k] ks):EncA ks p.1 p.2:=by
 obtain⟨h1,h2,h3⟩:=mayOf_mem hp
 refine elems_enc h p.1 ?_ h3
 rcases List.mem_cons.1 h1 with e | e
 ·exact .inr ⟨e,h2⟩
 ·rw [List.mem_singleton]at e
  exact .inl e
end Go.Proofs.YtfoegolfadhmjaaGreatDoor
namespace Go.Proofs.YtfoegolfadhmjaaGreatDoor
open Go.RowKit Go.WideShapes
theorem code_zero(code:UInt8):((code.toNat:Int)==0)=(code==0):=by
 by_cases e:code=0
 ·subst e;rfl
 ·have h1:code.toNat≠0:=fun h=>e (UInt8.toNat_inj.1 (h.trans rfl))
  rw [beq_eq_false_iff_ne.2 e,beq_eq_false_iff_ne.2 (by omega)]
theorem mayOf_len(codes:List UInt8)(ks:List V):(mayOf codes ks).length≤codes.length:=by
 induction codes with
 | nil=>simp [mayOf]
 | cons c l ih=>
   rw [show mayOf (c::l) ks=(if (c !=0)&&elemsA c ks then [(c,elemsD c ks)]else [])++mayOf l ks from rfl,List.length_append,List.length_cons]
   split
   ·rw [List.length_singleton];omega
   ·rw [List.length_nil];omega
theorem mayOf_snoc(codes:List UInt8)(ks:List V)(j:Nat)(code:UInt8)(h:codes[j]? =some code):mayOf (codes.take (j+1)) ks=mayOf (codes.take j) ks++if (code !=0)&&elemsA code ks then [(code,elemsD code ks)]else []:=by
 obtain⟨hj,rfl⟩:=List.getElem?_eq_some_iff.1 h
 rw [←List.take_append_getElem hj]
 unfold mayOf
 rw [List.flatMap_append]
 congr 1
 exact List.append_nil _
theorem code_eq(a b:UInt8):((a.toNat:Int)==(b.toNat:Int))=(a==b):=by
 by_cases e:a=b
 ·subst e;simp
 ·have h1:a.toNat≠b.toNat:=fun h=>e (UInt8.toNat_inj.1 h)
  rw [beq_eq_false_iff_ne.2 e,beq_eq_false_iff_ne.2 (by omega)]
def PM(w:World)(ps:List (UInt8×List UInt8))(s:Value):Prop:=∃cells,SlG 143 2 w s ps.length cells∧Pcs w ps cells
theorem PM.at{w:World}{ps:List (UInt8×List UInt8)}{A:Option Addr}{m c:Nat}(h:PM w ps (.slice A m c))(hne:0<ps.length):∃d i,A=some ⟨d,i,none⟩∧m=ps.length∧∀j (hj:j<ps.length),∃s,w.cell? ⟨d,i+j*2,none⟩=some (.int .i64 (ps[j].1.toNat:Int))∧w.cell? ⟨d,i+j*2+1,none⟩=some s∧SlC w s ps[j].2:=by
 obtain⟨cells,h1,h2⟩:=h
 obtain⟨d,i,e1,e2,_,_,hc⟩:=h1.at (by omega)
 refine⟨d,i,e1,e2,fun j hj=>?_⟩
 obtain⟨s,g1,g2,g3⟩:=h2.at j hj
 exact⟨s,hc _ _ (by omega) g1,by rw [Nat.add_assoc];exact hc _ _ (by omega) g2,g3⟩
theorem elements_is{k:Int}{ks:List V}(h:ArrOk k ks)(hm:ks.length≤1000)(f:Value)(w:World)(s:Value)(hs:LM w ks s):
 Calls Tryz.prog 134 #[f,.int .i64 k,s] w fun e w'=>∃sl,e=.returned sl∧New w w'∧RowG 143 2 Pcs w' w.heap.size sl (mayOf [shortC k,longC k] ks):=by
 obtain⟨hlong,-,hshort⟩:=long_code h.kind
 have H:=Lib.hid h
 have HS:=Lib.hid hs
 obtain⟨A,c,rfl,-,-⟩:=hs.shape
 have hml:ks.length≤1000:=hm
 obtain⟨n,hn⟩:∃n,n=ks.length:=⟨_,rfl⟩
 rw [←hn]at hml HS ⊢
 have M1:=Lib.hid hn
 clear hm hn
 have hmk:=make294 w
 have m0:=IntMap.new w
 obtain⟨u1,e1,m1,k1⟩:=m0.upd 4 82 (by decide)
 obtain⟨u2,e2,m2,k2⟩:=m1.upd 5 83 (by decide)
 obtain⟨u3,e3,m3,k3⟩:=m2.upd 8 84 (by decide)
 obtain⟨u4,e4,m4,k4⟩:=m3.upd 9 85 (by decide)
 obtain⟨u5,e5,m5,k5⟩:=m4.upd 18 160 (by decide)
 obtain⟨u6,e6,m6,k6⟩:=m5.upd 19 161 (by decide)
 obtain⟨u7,e7,m7,k7⟩:=m6.upd 20 163 (by decide)
 have kk:Keep (fun b=>b≠w.heap.size) (w.alloc (.map #[] 0)) u7:=((((((k1.trans k2).trans k3).trans k4).trans k5).trans k6).trans k7)
 have KN:=Lib.hid (((Keep.refl (fun _=>True) w).alloc (.map #[] 0)).then kk (fun i hi _=>by show i≠w.heap.size;omega))
 have hlk:=fun u (N:New u7 u)=>(m7.keep N).look k
 simp only [List.nil_append,List.cons_append]at hlk
 rw [hshort]at hlk
 have hcd:=fun w=>coded_is k w
 rw [hlong]at hcd
 have HLK:=Lib.hid hlk
 have HCD:=Lib.hid hcd
 have lk0:=hlk u7.drew (Keep.refl _ _).drew
 clear hlk hcd kk m0 k1 k2 k3 k4 k5 k6 k7 m1 m2 m3 m4 m5 m6 m7 hlong hshort h hs
 obtain⟨sc,hsc⟩:∃sc,sc=shortC k:=⟨_,rfl⟩
 obtain⟨lc,hlc⟩:∃lc,lc=longC k:=⟨_,rfl⟩
 rw [←hsc,←hlc]
 rw [←hsc]at lk0 HLK
 rw [←hlc]at HCD
 clear hsc hlc
 go_enter Tryz.func134,Tryz.ntmps134
 go_wp2_with fail
 go_upto_region 3 with fail
 go_cut [25,26,27] (fun s25 s26 s27 wc=>∃p:Nat,s25=.slice (some ⟨p,0,none⟩) 2 2∧s26=.int .i64 2∧s27=.int .i64 0∧wc.heap[p]? =some (.cells #[.int .i64 (sc.toNat:Int),.int .i64 (lc.toNat:Int)] 3 (0,0))∧New w wc)
 case first=>
  go_region_law (first | (go_simp;go_at_call 82;refine(HCD.out _).mono ?_;rintro e w4 ⟨rfl,k4⟩;have lk4:=HLK.out w4 ((Keep.refl _ _).drew.trans k4)))
  all_goals (go_wp2_with fail;go_meet)
  all_goals exact⟨_,rfl,rfl,rfl,blk_new _ _,(KN.out.trans ((Keep.refl _ _).drew.trans k4)).alloc _⟩
 case rest=>
  obtain⟨p,rfl,rfl,rfl,hp,kc⟩:=hcut
  clear lk0 HLK HCD hmk e1 e2 e3 e4 e5 e6 e7
  have HP:=Lib.hid hp
  clear hp
  go_wp2_with fail
  go_loopg [8,27] 2 (fun kk s8 s27 wr=>∃j:Nat,j+kk=2∧s27=.int .i64 (j:Int)∧New wc wr∧RowG 143 2 Pcs wr wc.heap.size s8 (mayOf ([sc,lc].take j) ks))
  case atStart=>exact⟨0,by omega,rfl,Keep.refl _ _,RowG.nil pieceCells⟩
  case round=>
   obtain⟨w1,hw1⟩:∃w1,w1=wr:=⟨_,rfl⟩
   subst hw1
   obtain⟨j,hj,rfl,kr,hrow⟩:=hrel
   have hsh:=hrow.shape
   obtain⟨n8,hn8⟩:∃n8,n8=(mayOf ([sc,lc].take j) ks).length:=⟨_,rfl⟩
   rw [←hn8]at hsh
   have HN8:=Lib.hid hn8
   clear hn8
   obtain⟨A8,c8,rfl⟩:=hsh
   have HROW:=Lib.hid hrow
   clear hrow
   rcases gk with _ | kk
   ·obtain rfl:j=2:=by omega
    go_wp2
    go_ret
    exact⟨_,rfl,kc.trans kr,HROW.out.mono kc.size⟩
   ·have hj2:j<2:=by omega
    have tj:decide ((j:Int)<2)=true:=by simp;omega
    obtain⟨code,hcode⟩:∃code,[sc,lc][j]? =some code:=⟨_,List.getElem?_eq_getElem (by simpa using hj2)⟩
    have hcell:w1.cell? ⟨p,0+j,none⟩=some (.int .i64 (code.toNat:Int)):=by
     rw [blk_cell (kr.blk HP.out trivial),Nat.zero_add]
     obtain rfl | rfl:j=0∨j=1:=by omega
     all_goals (simp at hcode;subst hcode;rfl)
    have hcell':w1.cell? ⟨p,j,none⟩=some (.int .i64 (code.toNat:Int)):=by rw [Nat.zero_add]at hcell;exact hcell
    obtain⟨z,hz⟩:∃z,z=(code !=0):=⟨_,rfl⟩
    have hz1:((code.toNat:Int)==0)=!z:=by rw [hz,code_zero];simp [bne]
    have hz2:((code.toNat:Int) !=0)=z:=by unfold bne;rw [hz1];simp
    have HZ:=Lib.hid hz
    clear hz
    go_wp2_with fail
    go_loopg [11,12,35] n (fun kk s11 s12 s35 w2=>∃(i:Nat) (b:Bool),i+kk=n∧s35=.int .i64 (i:Int)∧s12=.bool b∧b=(z&&elemsA code (ks.take i))∧New w1 w2∧RowB w2 w1.heap.size s11 (elemsD code (ks.take i)))
    case atStart=>
     refine⟨0,z,by omega,rfl,rfl,by simp [elemsA],Keep.refl _ _,RowB.nil⟩
    case round=>
     obtain⟨w2,hw2⟩:∃w2,w2=wr:=⟨_,rfl⟩
     subst hw2
     obtain⟨i,b,hi,rfl,rfl,hb,kq,hrq⟩:=hrel
     have hsh:=hrq.shape
     obtain⟨n11,hn11⟩:∃n11,n11=(elemsD code (ks.take i)).length:=⟨_,rfl⟩
     rw [←hn11]at hsh
     have HN11:=Lib.hid hn11
     have HB:=Lib.hid hb
     clear hn11 hb
     obtain⟨A11,c11,rfl⟩:=hsh
     have HRQ:=Lib.hid hrq
     clear hrq
     have hlong:∀q,(elemsD code (ks.take q)).length≤131084000:=fun q=>by
      have h1:=elemsD_len (code:=code) (l:=ks.take q) fun u hu=>(H.out.all u (List.mem_of_mem_take hu)).2.1
      have h2:=wts_take ks q
      have h3:=leafs_wt (l:=ks) fun u hu=>(H.out.all u hu).2.1
      have h4:=M1.out
      omega
     have HL:=Lib.hid hlong
     clear hlong
     rcases gk with _ | kk2
     ·obtain rfl:n=i:=by omega
      have hb2:b=((code !=0)&&elemsA code ks):=by rw [HB.out,HZ.out,M1.out,List.take_length]
      have hsn:=mayOf_snoc [sc,lc] ks j code hcode
      rw [←hb2]at hsn
      have hml2:=mayOf_len ([sc,lc].take j) ks
      have hlt:∀b,some b=(Value.slice A8 n8 c8).ownBlock→b<w1.heap.size:=fun b e=>HROW.out.ownLt e.symm
      have HSN:=Lib.hid hsn
      have HLT:=Lib.hid hlt
      clear hsn hb2 hlt
      cases b
      ·go_wp2_with fail
       go_roundg kk
       case measure=>omega
       case rel=>exact⟨j+1,by omega,congrArg _ (by omega),kr.trans kq,by rw [HSN.out];simpa using HROW.out.keep kq (fun _ _=>trivial)⟩
      ·have kN:=(Keep.refl (fun _=>True) w2).alloc (.cells #[.int .i64 (code.toNat:Int),.slice A11 n11 c11] 143)
       have hnlen:n11=(elemsD code ks).length:=by rw [HN11.out,M1.out,List.take_length]
       have hrd:=HRQ.out.out
       rw [M1.out,List.take_length]at hrd
       obtain⟨g,cap,w7,hap,hrow7,k7,_⟩:=((HROW.out.keep kq (fun _ _=>trivial)).keep kN (fun _ _=>trivial)).step pieceCells (vs:=[(code,elemsD code ks)]) Tryz.underlying140 info143 rfl (by omega) (by omega) w2.heap.size 0 1 [.int .i64 (code.toNat:Int),.slice A11 n11 c11] (fun q z hq=>by rw [blk_cell (blk_new w2 (.cells #[.int .i64 (code.toNat:Int),.slice A11 n11 c11] 143)),Nat.zero_add];simpa using hq)
        ((hrd.step kN.size (fun i hi _=>kN.block i hi trivial) (fun b hb hok=>⟨Nat.le_trans kr.size hok,fun e=>by have:=HLT.out b e;omega⟩)).imp fun w h=>Pcs.cons h.toC .nil) (by simp) (by simp at hml2 ⊢;omega) (by have:=kr.size;have:=kq.size;have:=kN.size;omega)
       simp only [List.length_singleton]at hap hrow7
       have far8:=HROW.out.far
       have HAP:=Lib.hid hap
       have HR7:=Lib.hid hrow7
       have KN7:=Lib.hid (((kr.trans kq).trans kN).then k7 (fun i hi _=>far8 i hi))
       clear hap hrow7 kN k7 far8 hrd hnlen
       go_wp2_with (at_builtin;refine wpList_append_eq rfl _ _ 140 rfl _ _ _ _ rfl rfl HAP.out ?_)
       go_roundg kk
       case measure=>omega
       case rel=>exact⟨j+1,by omega,congrArg _ (by omega),KN7.out,by rw [HSN.out];simpa using HR7.out⟩
     ·have hin:i<n:=by omega
      have ti:decide (i<n)=true:=by simpa using hin
      have hi1:i<ks.length:=by rw [←M1.out];exact hin
      obtain⟨d2,i2,hAe,-,-,-,hat⟩:=(HS.out.keep (kc.trans (kr.trans kq))).at2 (fun h=>by rw [h]at hi1;simp at hi1)
      cases hAe
      obtain⟨e0,e1,e2,e3,e4,e5,hva,g0,g1,g2,g3,g4,g5⟩:=hat i hi1
      have hleaf:=(H.out.all _ (List.getElem_mem hi1)).2.1
      have hD:elemsD code (ks.take (i+1))=elemsD code (ks.take i)++(pick1 code (pcs ks[i])).getD []:=by rw [←List.take_append_getElem hi1,elemsD_snoc]
      have hA:elemsA code (ks.take (i+1))=(elemsA code (ks.take i)&&(pick1 code (pcs ks[i])).isSome):=by rw [←List.take_append_getElem hi1,elemsA_snoc]
      clear hat
      obtain⟨v,hv⟩:∃v,v=ks[i]:=⟨_,rfl⟩
      rw [←hv]at hva hleaf hD hA
      clear hv
      obtain⟨Ak,ck,o,Ad,cd,heq,hnum,ho⟩:=hva.parts'
      simp only [Value.agg.injEq,Array.mk.injEq,List.cons.injEq,and_true]at heq
      obtain⟨rfl,rfl,rfl,rfl,rfl,rfl⟩:=heq
      subst ho
      have HC:=Lib.hid (fun w=>pieces_leaf hleaf f Ak none v.kids.length ck 0 0 w)
      have HLF:=Lib.hid hleaf
      have HD:=Lib.hid hD
      have HA:=Lib.hid hA
      clear hleaf hD hA hva hi1
      go_wp2_with fail
      refine(HC.out _).mono ?_
      rintro e w4 ⟨sq,rfl,k4,rowp⟩
      have hsh4:=rowp.shape
      obtain⟨np,hnp⟩:∃np,np=(pcs v).length:=⟨_,rfl⟩
      rw [←hnp]at hsh4
      have HNP:=Lib.hid hnp
      clear hnp
      obtain⟨A4,c4,rfl⟩:=hsh4
      have k04:New w2 w4:=((Keep.refl _ w2).alloc _).trans k4
      obtain⟨B4,hB4⟩:∃B4,B4=w2.heap.size+1:=⟨_,rfl⟩
      obtain⟨S4,hS4⟩:∃S4,S4=w4.heap.size:=⟨_,rfl⟩
      have dp:Dep (fun b=>B4≤b∧b<S4) w4 (fun w=>PM w (pcs v) (.slice A4 np c4)):=rowp.out.mono (fun b hb h=>⟨by rw [hB4];simpa using h,by rw [hS4];exact hb⟩)
      have hown:∀g,(Value.slice A11 n11 c11).ownBlock=some g→¬(B4≤g∧g<S4):=fun g hg h=>by have:=HRQ.out.lt hg;omega
      have hr4:=HRQ.out.keep k04 (fun _ _=>trivial)
      have DP:=Lib.hid dp
      have OW:=Lib.hid hown
      have HR4:=Lib.hid hr4
      have K4:=Lib.hid (kq.trans k04)
      have HS4:=Lib.hid hS4
      have hnp3:np≤3:=by rw [HNP.out];exact(pcs_len HLF.out).2
      clear dp hown hr4 rowp k4 k04 hB4 hS4
      go_wp2_with fail
      go_loopg [11,15,44] np (fun kk s11 s15 s44 wr=>∃(q:Nat) (fb:Bool),q+kk=np∧s44=.int .i64 (q:Int)∧s15=.bool fb∧fb=(pick1 code ((pcs v).take q)).isSome∧New w1 wr∧RowB wr w1.heap.size s11 (elemsD code (ks.take i)++(pick1 code ((pcs v).take q)).getD [])∧Dep (fun b=>B4≤b∧b<S4) wr (fun w=>PM w (pcs v) (.slice A4 np c4))∧(∀g,s11.ownBlock=some g→¬(B4≤g∧g<S4))∧S4≤wr.heap.size)
      case atStart=>exact⟨0,false,by omega,rfl,rfl,rfl,K4.out,by simpa [pick1]using HR4.out,DP.out,OW.out,by rw [HS4.out];exact Nat.le_refl _⟩
      case round=>
       obtain⟨w3,hw3⟩:∃w3,w3=wr:=⟨_,rfl⟩
       subst hw3
       obtain⟨q,fb,hq,rfl,rfl,hfb,k3,hr3,dp3,ow3,hs3⟩:=hrel
       have hsh:=hr3.shape
       obtain⟨n13,hn13⟩:∃n13,n13=(elemsD code (ks.take i)++(pick1 code ((pcs v).take q)).getD []).length:=⟨_,rfl⟩
       rw [←hn13]at hsh
       have HN13:=Lib.hid hn13
       have HFB:=Lib.hid hfb
       clear hn13 hfb
       obtain⟨A13,c13,rfl⟩:=hsh
       have HR3:=Lib.hid hr3
       have DP3:=Lib.hid dp3
       have OW3:=Lib.hid ow3
       clear hr3 dp3 ow3 DP OW HR4 K4
       rcases gk with _ | kk3
       ·obtain rfl:np=q:=by omega
        have hfin:fb=(pick1 code (pcs v)).isSome:=by rw [HFB.out,HNP.out,List.take_length]
        have hrow:RowB w3 w1.heap.size (.slice A13 n13 c13) (elemsD code (ks.take (i+1))):=by
         have:=HR3.out
         rw [HNP.out,List.take_length,←HD.out]at this
         exact this
        have hb':(b&&fb)=(z&&elemsA code (ks.take (i+1))):=by rw [HA.out,hfin,HB.out,Bool.and_assoc]
        have HB':=Lib.hid hb'
        have HR':=Lib.hid hrow
        clear hfin hrow hb'
        cases b
        all_goals
         go_wp2_with fail
         go_roundg kk2
         case measure=>omega
         case rel=>first | exact⟨i+1,false,by omega,congrArg _ (by omega),rfl,by simpa using HB'.out,k3,HR'.out⟩ | exact⟨i+1,fb,by omega,congrArg _ (by omega),rfl,by simpa using HB'.out,k3,HR'.out⟩
       ·have hqn:q<np:=by omega
        have tq:decide (q<np)=true:=by simpa using hqn
        have hq1:q<(pcs v).length:=by rw [←HNP.out];exact hqn
        obtain⟨d4,i4,hAe,-,hat⟩:=DP3.out.here.at (by omega)
        cases hAe
        obtain⟨sp,g0,g1,hsp⟩:=hat q hq1
        have hpl:=pcs_data_len HLF.out (List.getElem_mem hq1)
        have hpk:pick1 code ((pcs v).take (q+1))=(pick1 code ((pcs v).take q)).or (if (pcs v)[q].1==code then some (pcs v)[q].2 else none):=by rw [←List.take_append_getElem hq1,pick1_snoc]
        obtain⟨y,hy⟩:∃y,y=((pcs v)[q].1==code):=⟨_,rfl⟩
        rw [←hy]at hpk
        have hy1:(((pcs v)[q].1.toNat:Int)==(code.toNat:Int))=y:=by rw [hy,code_eq]
        clear hat hy
        obtain⟨pc,hpc⟩:∃pc,pc=(pcs v)[q]:=⟨_,rfl⟩
        rw [←hpc]at g0 hsp hpl hpk hy1
        clear hpc
        obtain⟨As,cs,rfl,hsp2⟩:=hsp
        have kN:=(Keep.refl (fun _=>True) w3).alloc (.cells #[.int .i64 (pc.1.toNat:Int),.slice As pc.2.length cs] 143)
        have dpN:=DP3.out.new kN
        have hszN:S4≤(w3.alloc (.cells #[.int .i64 (pc.1.toNat:Int),.slice As pc.2.length cs] 143)).heap.size:=Nat.le_trans hs3 kN.size
        have k1N:=k3.trans kN
        have HDN:=Lib.hid dpN
        have HPK:=Lib.hid hpk
        have K1N:=Lib.hid k1N
        have HRN:=Lib.hid (HR3.out.keep kN (fun _ _=>trivial))
        have HSP:Hid (SlC w3 (.slice As pc.2.length cs) pc.2):=Lib.hid ⟨As,cs,rfl,hsp2⟩
        have KNh:=Lib.hid kN
        clear dpN hpk k1N hsp2 kN k3
        cases y
        ·go_wp2_with fail
         go_roundg kk3
         case measure=>omega
         case rel=>exact⟨q+1,fb,by omega,congrArg _ (by omega),rfl,by rw [HPK.out];simpa using HFB.out,K1N.out,by rw [HPK.out];simpa using HRN.out,HDN.out,OW3.out,hszN⟩
        ·cases fb
         ·have hnone:pick1 code ((pcs v).take q)=none:=by
           have:=HFB.out
           cases e:pick1 code ((pcs v).take q)with
           | none=>rfl
           | some d=>rw [e]at this;cases this
          have hrn:=HRN.out
          rw [hnone]at hrn
          simp only [Option.getD_none,List.append_nil]at hrn
          obtain⟨sk7,w7,hap,hrow7,k7,hown7⟩:=hrn.appC (HSP.out.keep KNh.out) (by have:=HL.out i;omega) K1N.out.size
          obtain⟨A7,n7,c7,rfl⟩:∃A n c,sk7=.slice A n c:=(let ⟨A,c,e⟩:=hrow7.shape;⟨A,_,c,e⟩)
          have far7:=hrn.far
          have HAP:=Lib.hid hap
          have HR7:=Lib.hid hrow7
          have K7:=Lib.hid (K1N.out.then k7 (fun i hi _=>far7 i hi))
          have D7:=Lib.hid (HDN.out.keep k7 (fun b hb hS e=>OW3.out b e.symm hS))
          have O7:Hid (∀g,(Value.slice A7 n7 c7).ownBlock=some g→¬(B4≤g∧g<S4)):=Lib.hid fun g hg=>by
           rcases hown7 with e | e
           ·exact OW3.out g (by rw [←e];exact hg)
           ·rw [e]at hg
            injection hg with hg
            omega
          have S7:=Nat.le_trans hszN k7.size
          have hpk7:pick1 code ((pcs v).take (q+1))=some pc.2:=by rw [HPK.out,hnone];simp
          have HPK7:=Lib.hid hpk7
          clear hap hrow7 k7 hown7 far7 hrn hnone hpk7
          go_wp2_with (at_builtin;refine wpList_append_eq rfl _ _ 27 rfl _ _ _ _ rfl rfl HAP.out ?_)
          go_roundg kk3
          case measure=>omega
          case rel=>exact⟨q+1,true,by omega,congrArg _ (by omega),rfl,by rw [HPK7.out];rfl,K7.out,by rw [HPK7.out];exact HR7.out,D7.out,O7.out,S7⟩
         ·go_wp2_with fail
          go_roundg kk3
          case measure=>omega
          case rel=>
           obtain⟨dd,hdd⟩:∃d,pick1 code ((pcs v).take q)=some d:=Option.isSome_iff_exists.1 HFB.out.symm
           exact⟨q+1,true,by omega,congrArg _ (by omega),rfl,by rw [HPK.out,hdd];rfl,K1N.out,by rw [HPK.out,hdd];have:=HRN.out;rw [hdd]at this;exact this,HDN.out,OW3.out,hszN⟩
end Go.Proofs.YtfoegolfadhmjaaGreatDoor
namespace Go.Proofs.YtfoegolfadhmjaaGreatDoor
open Go.RowKit Go.WideShapes
theorem LeafOk.desc{v:V}(h:LeafOk v):v.desc=[]:=by cases h<;>rfl
theorem FormsAt.lt{w:World}{f:Nat}{short:Bool}(h:FormsAt w f short):f<w.heap.size:=let ⟨_,h⟩:=h;lt_blk h
theorem FormsAt.new{w w':World}{f:Nat}{short:Bool}(h:FormsAt w f short)(k:New w w'):FormsAt w' f short:=let ⟨st,h⟩:=h;⟨st,k.blk h trivial⟩
theorem LM.pick{w w':World}{f:Nat}{short:Bool}{l:List V}{s:Value}(h:LM w l s)(hf:FormsAt w f short)(k:Keep (fun b=>b≠f) w w'):LM w' l s:=by
 obtain⟨st,hf⟩:=hf
 exact h.keepN hf (by simp) k
theorem array_is{k:Int}{ks:List V}(h:ArrOk k ks)(hm:ks.length≤1000)(hne:ks≠[])(f:Nat)(short:Bool)(w:World)(s:Value)(hs:LM w ks s)(hf:FormsAt w f short)(o:Int)(A2:Option Addr)(b c2:Nat):
 Calls Tryz.prog 84 #[.pointer (some ⟨f,0,none⟩),.agg #[.int .i64 23,.int .u64 0,.string ⟨#[]⟩,s,.int .i64 o,.slice A2 b c2]] w fun e w'=>∃sl code data,e=.returned sl∧Keep (fun b=>b≠f) w w'∧FormsAt w' f short∧RowG 143 2 Pcs w' w.heap.size sl (lngc 224 240 (code::data) ks.length)∧EncA ks code data∧data.length≤131084000:=by
 obtain⟨A,c,rfl,-,-⟩:=hs.shape
 obtain⟨n,hn⟩:∃n,n=ks.length:=⟨_,rfl⟩
 have hn0:0<n:=by rw [hn];exact List.length_pos_iff.2 hne
 rw [←hn]at hs hm ⊢
 have M1:=Lib.hid hn
 have kb:=(Keep.refl (fun _=>True) w).alloc (.cells #[.int .i64 23,.int .u64 0,.string ⟨#[]⟩,.slice A n c,.int .i64 o,.slice A2 b c2] 78)
 have hs1:=hs.keep kb
 have hfl:=hf.lt
 have HB1:=Lib.hid (blk_new w (.cells #[.int .i64 23,.int .u64 0,.string ⟨#[]⟩,.slice A n c,.int .i64 o,.slice A2 b c2] 78))
 have q3:=(blk_cell (blk_new w (.cells #[.int .i64 23,.int .u64 0,.string ⟨#[]⟩,.slice A n c,.int .i64 o,.slice A2 b c2] 78)) 3).trans rfl
 have q4:=(blk_cell (blk_new w (.cells #[.int .i64 23,.int .u64 0,.string ⟨#[]⟩,.slice A n c,.int .i64 o,.slice A2 b c2] 78)) 4).trans rfl
 have hf1:=hf.new kb
 obtain⟨d2,i2,hAe,-,-,-,hat⟩:=hs1.at2 hne
 cases hAe
 have h0:0<ks.length:=by rw [←hn];exact hn0
 obtain⟨e0,e1,e2,e3,e4,e5,hva,g0,-⟩:=hat 0 h0
 obtain⟨Ak,ck,o',Ad,cd,heq,-,-⟩:=hva.parts'
 simp only [Value.agg.injEq,Array.mk.injEq,List.cons.injEq,and_true]at heq
 obtain⟨rfl,rfl,rfl,rfl,rfl,rfl⟩:=heq
 rw [(h.all _ (List.getElem_mem h0)).1]at g0
 simp only [Nat.zero_mul,Nat.add_zero]at g0
 have tn:decide (0<n)=true:=by simpa using hn0
 have HE:=Lib.hid (elements_is h (by rw [←hn];exact hm) (.pointer (some ⟨f,0,none⟩)) _ _ hs1)
 have H:=Lib.hid h
 have HS:=Lib.hid hs1
 have HF:=Lib.hid hf1
 clear hat hs hf hs1 hf1 hva h hn
 go_enter Tryz.func84,Tryz.ntmps84
 go_wp2_with fail
 refine HE.out.mono ?_
 rintro e w1 ⟨sl,rfl,k1,row⟩
 have hsh:=row.shape
 obtain⟨np,hnp⟩:∃np,np=(mayOf [shortC k,longC k] ks).length:=⟨_,rfl⟩
 rw [←hnp]at hsh
 obtain⟨A4,c4,rfl⟩:=hsh
 have hnp1:1≤np∧np≤2:=by rw [hnp];exact mayOf_some H.out
 have HNP:=Lib.hid hnp
 have hf1:=HF.out.new k1
 have HPK:=Lib.hid (pick_is f np hnp1.1 (by omega) short w1 hf1)
 have HF1:=Lib.hid hf1
 have ROW:=Lib.hid row
 clear hnp hf1 row
 go_wp2_with fail
 refine HPK.out.mono ?_
 rintro e w2 ⟨j,rfl,hj,k2,hf2⟩
 have hfw:f<w.heap.size:=hfl
 have hjp:j<(mayOf [shortC k,longC k] ks).length:=by rw [←HNP.out];exact hj
 have hpm:=(ROW.out.out.keep (φ:=fun w=>PM w (mayOf [shortC k,longC k] ks) (.slice A4 np c4)) k2 (fun b _ hb=>by have:=kb.size;show b≠f;omega)).here
 obtain⟨d4,i4,hAe,-,hat4⟩:=hpm.at (by omega)
 cases hAe
 obtain⟨sp,y0,y1,hsp⟩:=hat4 j hjp
 have henc:=mayOf_enc H.out (List.getElem_mem hjp)
 have hmem:=mayOf_mem (List.getElem_mem hjp)
 obtain⟨pc,hpc⟩:∃pc,pc=(mayOf [shortC k,longC k] ks)[j]:=⟨_,rfl⟩
 rw [←hpc]at y0 hsp henc hmem
 clear hpc hat4 hpm hjp
 have hlen:pc.2.length≤131084000:=by
  have h1:=elems_is pc.1 ks
  rw [hmem.2.2]at h1
  split at h1
  ·injection h1 with h1
   rw [h1]
   have h2:=elemsD_len (code:=pc.1) (l:=ks) fun u hu=>(H.out.all u hu).2.1
   have h3:=leafs_wt (l:=ks) fun u hu=>(H.out.all u hu).2.1
   have h4:=M1.out
   omega
  ·cases h1
 clear hmem
 have HSP:=Lib.hid hsp
 obtain⟨As,cs,hse,-⟩:=hsp
 subst hse
 have tj:decide (j<np)=true:=by simpa using hj
 have kw2:Keep (fun b=>b≠f) w w2:=(New.keep (kb.trans k1) _).trans k2
 have kA:=(Keep.refl (fun _=>True) w2).alloc (.cells #[.int .i64 (pc.1.toNat:Int),.slice As pc.2.length cs] 143)
 have kB:=kA.alloc (.cells #[.int .u8 (pc.1.toNat:Int)] 5)
 have hrb:=RowB.made (X:=w2.alloc (.cells #[.int .i64 (pc.1.toNat:Int),.slice As pc.2.length cs] 143)) (base:=w2.heap.size) (by simp) [pc.1] (by simp)
 obtain⟨sk5,w5,hap,hrow5,k5,-⟩:=hrb.appC (HSP.out.keep kB) (by simp;omega) kB.size
 simp only [World.size_alloc]at hap
 have far5:=hrb.far
 have k25:New w2 w5:=kB.then k5 (fun i hi _=>far5 i hi)
 obtain⟨A5,n5,c5,rfl⟩:∃A n c,sk5=.slice A n c:=(let ⟨A,c,e⟩:=hrow5.shape;⟨A,_,c,e⟩)
 have hwrap:IntKind.u8.wrap (pc.1.toNat:Int)=(pc.1.toNat:Int):=by
  have:=pc.1.toNat_lt
  rw [IntKind.wrap_u8]
  omega
 have hb2:=k2.blk (k1.blk HB1.out trivial) (show w.heap.size≠f by omega)
 have hb5:=k25.blk hb2 trivial
 have r3:=(blk_cell hb5 3).trans rfl
 have hs5:=((HS.out.keep k1).pick HF1.out k2).keep k25
 obtain⟨d6,i6,hAe,-,-,-,hat6⟩:=hs5.at2 hne
 cases hAe
 obtain⟨e0,e1,e2,e3,e4,e5,hva,-,-,-,-,-,x5⟩:=hat6 0 h0
 obtain⟨Ak',ck',o'',Ad',cd',heq,-,-⟩:=hva.parts'
 simp only [Value.agg.injEq,Array.mk.injEq,List.cons.injEq,and_true]at heq
 obtain⟨rfl,rfl,rfl,rfl,rfl,rfl⟩:=heq
 rw [(H.out.all _ (List.getElem_mem h0)).2.1.desc]at x5
 simp only [Nat.zero_mul,Nat.add_zero,List.length_nil]at x5
 have HL:=Lib.hid (lengthed_n 224 240 (.slice A5 n5 c5) (pc.1::pc.2) n hm w5 hrow5.out.here.toC (by simp;omega))
 have HAP:=Lib.hid hap
 have HF2:=Lib.hid hf2
 have K25:=Lib.hid k25
 have ENC:=Lib.hid henc
 clear hap hrow5 k5 hrb far5 kA kB k25 hb2 hb5 hs5 hat6 hva hf2 henc
 go_wp2_with (at_builtin;refine wpList_append_eq rfl _ _ 27 rfl _ _ _ _ rfl rfl HAP.out ?_)
 refine HL.out.mono ?_
 rintro e w6 ⟨sl6,rfl,k6,row6⟩
 have kw:=kw2.trans (New.keep (K25.out.trans k6) _)
 have HR6:=Lib.hid (row6.mono (Nat.le_trans kw2.size K25.out.size))
 have F6:=Lib.hid ((HF2.out.new K25.out).new k6)
 go_wp2
 go_ret
 exact⟨_,pc.1,pc.2,rfl,kw,F6.out,HR6.out.mono (Nat.le_refl _),ENC.out,hlen⟩
end Go.Proofs.YtfoegolfadhmjaaGreatDoor
namespace Go.Proofs.YtfoegolfadhmjaaGreatDoor
open Go.RowKit Go.WideShapes
def PutOK(v:V):Prop:=∀(w:World) (x:Value) (f:Nat) (short:Bool),VM w v x→FormsAt w f short→
 Calls Tryz.prog 35 #[x,.pointer (some ⟨f,0,none⟩)] w fun e w'=>∃sl b,e=.returned sl∧EncW [v] b∧Keep (fun b=>b≠f) w w'∧FormsAt w' f short∧RowB w' w.heap.size sl b
theorem pieces_22{kids:List V}(hput:∀v∈kids,PutOK v)(hw:wts kids≤900000000)(hm:kids.length≤1000)(f:Nat)(short:Bool)(w:World)(s:Value)(hs:LM w kids s)(hf:FormsAt w f short)(o:Int)(A2:Option Addr)(b c2:Nat):
 Calls Tryz.prog 62 #[.pointer (some ⟨f,0,none⟩),.agg #[.int .i64 22,.int .u64 0,.string ⟨#[]⟩,s,.int .i64 o,.slice A2 b c2]] w fun e w'=>∃sl body,e=.returned sl∧Keep (fun b=>b≠f) w w'∧FormsAt w' f short∧EncW kids body∧RowG 143 2 Pcs w' w.heap.size sl (lngc 193 209 body kids.length):=by
 obtain⟨A,c,rfl,-,-⟩:=hs.shape
 obtain⟨n,hn⟩:∃n,n=kids.length:=⟨_,rfl⟩
 rw [←hn]at hs hm ⊢
 have M1:=Lib.hid hn
 have hfl:=hf.lt
 have kb:=(Keep.refl (fun b=>b≠f) w).alloc (.cells #[.int .i64 22,.int .u64 0,.string ⟨#[]⟩,.slice A n c,.int .i64 o,.slice A2 b c2] 78)
 have hbx:=blk_new w (.cells #[.int .i64 22,.int .u64 0,.string ⟨#[]⟩,.slice A n c,.int .i64 o,.slice A2 b c2] 78)
 have q3:=(blk_cell hbx 3).trans rfl
 have HBX:=Lib.hid hbx
 have HS:=Lib.hid hs
 have HF:=Lib.hid hf
 have HP:=Lib.hid hput
 have HF1:=Lib.hid (hf.new ((Keep.refl _ w).alloc (.cells #[.int .i64 22,.int .u64 0,.string ⟨#[]⟩,.slice A n c,.int .i64 o,.slice A2 b c2] 78)))
 clear hn hs hf hbx hput
 go_enter Tryz.func62,Tryz.ntmps62
 go_wp2_with fail
 go_loopg [5,63] n (fun kk s5 s63 wr=>∃(j:Nat) (data:List UInt8),j+kk=n∧s63=.int .i64 (j:Int)∧Keep (fun b=>b≠f) w wr∧FormsAt wr f short∧RowB wr (w.heap.size+1) s5 data∧EncW (kids.take j) data∧wr.heap[w.heap.size]? =some (.cells #[.int .i64 22,.int .u64 0,.string ⟨#[]⟩,.slice A n c,.int .i64 o,.slice A2 b c2] 78 (0,0)))
 case atStart=>exact⟨0,[],by omega,rfl,kb,HF1.out,RowB.nil,EncW.nil,HBX.out⟩
 case round=>
  obtain⟨j,data,hj,rfl,kr,hfr,hrow,henc,hbr⟩:=hrel
  have hsh:=hrow.shape
  obtain⟨n5,hn5⟩:∃n5,n5=data.length:=⟨_,rfl⟩
  rw [←hn5]at hsh
  obtain⟨A5,c5,rfl⟩:=hsh
  have hdl:data.length≤900000000:=by
   have h1:=henc.short
   have h2:=wts_take kids j
   omega
  have b0:=(blk_cell hbr 0).trans rfl
  have b3:=(blk_cell hbr 3).trans rfl
  have HROW:=Lib.hid hrow
  have HENC:=Lib.hid henc
  have HBR:=Lib.hid hbr
  have HFR:=Lib.hid hfr
  have HN5:=Lib.hid hn5
  clear hrow henc hbr hfr hn5
  rcases gk with _ | kk
  ·obtain rfl:n=j:=by omega
   have henc2:EncW kids data:=by have:=HENC.out;rwa [M1.out,List.take_length]at this
   have HE2:=Lib.hid henc2
   have HL:=Lib.hid (fun (c8 c32:UInt8)=>lengthed_n c8 c32 (.slice A5 n5 c5) data n hm wr HROW.out.out.here.toC (by omega))
   clear henc2
   go_wp2_with fail
   refine(HL.out 193 209).mono ?_
   rintro e w6 ⟨sl6,rfl,k6,row6⟩
   have HR6:=Lib.hid (row6.mono kr.size)
   have F6:=Lib.hid (HFR.out.new k6)
   have K6:=Lib.hid (kr.trans (New.keep k6 _))
   go_wp2
   go_ret
   exact⟨_,data,rfl,K6.out,F6.out,HE2.out,HR6.out⟩
  ·have hjn:j<n:=by omega
   have tj:decide (j<n)=true:=by simpa using hjn
   have hj1:j<kids.length:=by rw [←M1.out];exact hjn
   obtain⟨d2,i2,hAe,-,-,-,hat⟩:=(HS.out.pick HF.out kr).at2 (fun h=>by rw [h]at hj1;simp at hj1)
   cases hAe
   obtain⟨e0,e1,e2,e3,e4,e5,hva,g0,g1,g2,g3,g4,g5⟩:=hat j hj1
   obtain⟨v,hv⟩:∃v,v=kids[j]:=⟨_,rfl⟩
   have htk:kids.take (j+1)=kids.take j++[kids[j]]:=(List.take_append_getElem hj1).symm
   have hpv:=HP.out kids[j] (List.getElem_mem hj1)
   rw [←hv]at hva htk hpv
   clear hv
   have hva2:=hva
   obtain⟨Ak,ck,o',Ad,cd,heq,-,-⟩:=hva.parts'
   simp only [Value.agg.injEq,Array.mk.injEq,List.cons.injEq,and_true]at heq
   obtain⟨rfl,rfl,rfl,rfl,rfl,rfl⟩:=heq
   have kN:=(Keep.refl (fun _=>True) wr).alloc (.cells #[.int .i64 v.kind,.int .u64 (v.num:Int),.string ⟨v.text.toArray⟩,.slice Ak v.kids.length ck,.int .i64 o',.slice Ad v.desc.length cd] 78)
   have HC:=Lib.hid (hpv _ _ f short (hva2.keep kN) (HFR.out.new kN))
   have HTK:=Lib.hid htk
   have KN:=Lib.hid kN
   clear hat hva hva2 htk hpv kN
   go_wp2_with fail
   refine HC.out.mono ?_
   rintro e w4 ⟨sl4,bd,rfl,henc4,k4,hf4,hrow4⟩
   have k04:Keep (fun b=>b≠f) wr w4:=(New.keep KN.out _).trans k4
   have hr4:=HROW.out.keep k04 (fun b hb=>by show b≠f;omega)
   have henc5:=HENC.out.append henc4
   rw [←HTK.out]at henc5
   have hbl:bd.length≤900000000:=by
    have h1:=henc5.short
    have h2:=wts_take kids (j+1)
    simp only [List.length_append]at h1
    omega
   have hsz:w.heap.size+1≤wr.heap.size:=lt_blk HBR.out
   obtain⟨sk7,w7,hap,hrow7,k7,-⟩:=hr4.app hrow4.out.here (by omega) (Nat.le_trans hsz k04.size)
   have far7:=hr4.far
   obtain⟨A4,n4,c4,rfl⟩:∃A n c,sl4=.slice A n c:=(let ⟨A,c,e⟩:=hrow4.shape;⟨A,_,c,e⟩)
   obtain⟨A7,n7,c7,rfl⟩:∃A n c,sk7=.slice A n c:=(let ⟨A,c,e⟩:=hrow7.shape;⟨A,_,c,e⟩)
   have K7:=Lib.hid ((kr.trans k04).then k7 (fun i hi _=>far7 i (by omega)))
   have B7:=Lib.hid (k7.blk (k04.blk HBR.out (show w.heap.size≠f by omega)) (far7 _ (by omega)))
   have F7:Hid (FormsAt w7 f short):=Lib.hid (let ⟨st,h⟩:=hf4;⟨st,k7.blk h (far7 _ (by omega))⟩)
   have HAP:=Lib.hid hap
   have HR7:=Lib.hid hrow7
   have HE5:=Lib.hid henc5
   clear hap hrow7 k7 far7 hr4 k04 hrow4 henc4 henc5 hf4 k4
   go_wp2_with (at_builtin;refine wpList_append_eq rfl _ _ 27 rfl _ _ _ _ rfl rfl HAP.out ?_)
   go_roundg kk
   case measure=>omega
   case rel=>exact⟨j+1,data++bd,by omega,congrArg _ (by omega),K7.out,F7.out,HR7.out,HE5.out,B7.out⟩
theorem pieces_21{kids:List V}(hput:∀v∈kids,PutOK v)(hw:wts kids≤900000000)(hm:kids.length≤1000)(f:Nat)(short:Bool)(w:World)(s:Value)(hs:LM w kids s)(hf:FormsAt w f short)(o:Int)(A2:Option Addr)(b c2:Nat):
 Calls Tryz.prog 62 #[.pointer (some ⟨f,0,none⟩),.agg #[.int .i64 21,.int .u64 0,.string ⟨#[]⟩,s,.int .i64 o,.slice A2 b c2]] w fun e w'=>∃sl body,e=.returned sl∧Keep (fun b=>b≠f) w w'∧FormsAt w' f short∧EncW kids body∧RowG 143 2 Pcs w' w.heap.size sl (listP kids body):=by
 obtain⟨A,c,rfl,-,-⟩:=hs.shape
 obtain⟨n,hn⟩:∃n,n=kids.length:=⟨_,rfl⟩
 rw [←hn]at hs hm ⊢
 have M1:=Lib.hid hn
 have hfl:=hf.lt
 have kb:=(Keep.refl (fun b=>b≠f) w).alloc (.cells #[.int .i64 21,.int .u64 0,.string ⟨#[]⟩,.slice A n c,.int .i64 o,.slice A2 b c2] 78)
 have hbx:=blk_new w (.cells #[.int .i64 21,.int .u64 0,.string ⟨#[]⟩,.slice A n c,.int .i64 o,.slice A2 b c2] 78)
 have q3:=(blk_cell hbx 3).trans rfl
 have HBX:=Lib.hid hbx
 have HS:=Lib.hid hs
 have HF:=Lib.hid hf
 have HP:=Lib.hid hput
 have HF1:=Lib.hid (hf.new ((Keep.refl _ w).alloc (.cells #[.int .i64 21,.int .u64 0,.string ⟨#[]⟩,.slice A n c,.int .i64 o,.slice A2 b c2] 78)))
 clear hn hs hf hbx hput
 go_enter Tryz.func62,Tryz.ntmps62
 go_wp2_with fail
 go_loopg [5,63] n (fun kk s5 s63 wr=>∃(j:Nat) (data:List UInt8),j+kk=n∧s63=.int .i64 (j:Int)∧Keep (fun b=>b≠f) w wr∧FormsAt wr f short∧RowB wr (w.heap.size+1) s5 data∧EncW (kids.take j) data∧wr.heap[w.heap.size]? =some (.cells #[.int .i64 21,.int .u64 0,.string ⟨#[]⟩,.slice A n c,.int .i64 o,.slice A2 b c2] 78 (0,0)))
 case atStart=>exact⟨0,[],by omega,rfl,kb,HF1.out,RowB.nil,EncW.nil,HBX.out⟩
 case round=>
  obtain⟨j,data,hj,rfl,kr,hfr,hrow,henc,hbr⟩:=hrel
  have hsh:=hrow.shape
  obtain⟨n5,hn5⟩:∃n5,n5=data.length:=⟨_,rfl⟩
  rw [←hn5]at hsh
  obtain⟨A5,c5,rfl⟩:=hsh
  have hdl:data.length≤900000000:=by
   have h1:=henc.short
   have h2:=wts_take kids j
   omega
  have b0:=(blk_cell hbr 0).trans rfl
  have b3:=(blk_cell hbr 3).trans rfl
  have HROW:=Lib.hid hrow
  have HENC:=Lib.hid henc
  have HBR:=Lib.hid hbr
  have HFR:=Lib.hid hfr
  have HN5:=Lib.hid hn5
  clear hrow henc hbr hfr hn5
  rcases gk with _ | kk
  ·obtain rfl:n=j:=by omega
   have henc2:EncW kids data:=by have:=HENC.out;rwa [M1.out,List.take_length]at this
   have HE2:=Lib.hid henc2
   have HL:=Lib.hid (fun (c8 c32:UInt8)=>lengthed_n c8 c32 (.slice A5 n5 c5) data n hm wr HROW.out.out.here.toC (by omega))
   clear henc2
   go_wp2_with fail
   refine(HL.out 192 208).mono ?_
   rintro e w6 ⟨sl6,rfl,k6,row6⟩
   have row7:=row6.mono kr.size
   have hb6:=k6.blk HBR.out trivial
   have x3:=(blk_cell hb6 3).trans rfl
   have F6:=HFR.out.new k6
   have K6:=kr.trans (New.keep k6 _)
   have hsh6:=row7.shape
   obtain⟨n6,hn6⟩:∃n6,n6=(lngc 192 208 data n).length:=⟨_,rfl⟩
   rw [←hn6]at hsh6
   obtain⟨A6,c6,rfl⟩:=hsh6
   have hl6:=lngc_len 192 208 data n
   have HN6:=Lib.hid hn6
   have HR7:=Lib.hid row7
   have HF6:=Lib.hid F6
   have HK6:=Lib.hid K6
   clear hn6 row6 row7 hb6 F6
   by_cases h0:n=0
   ·have t0:((n:Int)==0)=true:=by simpa using h0
    have hk0:kids=[]:=List.eq_nil_of_length_eq_zero (by rw [←M1.out];exact h0)
    obtain⟨r,w9,hap,k9,row9⟩:=put_front w6 HR7.out (by omega) (by omega) K6.size 69
    have HAP:=Lib.hid hap
    have HR9:=Lib.hid row9
    have HF9:=Lib.hid (HF6.out.new k9)
    have HK9:=Lib.hid (HK6.out.trans (New.keep k9 _))
    clear hap row9 k9
    go_wp2_with (at_builtin;refine wpList_append_eq rfl _ _ 140 rfl _ _ _ _ rfl rfl HAP.out ?_)
    go_ret
    refine⟨_,data,rfl,HK9.out,HF9.out,HE2.out,?_⟩
    have:=HR9.out
    rw [M1.out]at this
    simpa [listP,hk0]using this
   ·have t0:((n:Int)==0)=false:=by simpa using h0
    have hk0:kids≠[]:=fun e=>h0 (by rw [M1.out,e];rfl)
    go_wp2
    go_ret
    refine⟨_,data,rfl,HK6.out,HF6.out,HE2.out,?_⟩
    have:=HR7.out
    rw [M1.out]at this
    simpa [listP,hk0]using this
  ·have hjn:j<n:=by omega
   have tj:decide (j<n)=true:=by simpa using hjn
   have hj1:j<kids.length:=by rw [←M1.out];exact hjn
   obtain⟨d2,i2,hAe,-,-,-,hat⟩:=(HS.out.pick HF.out kr).at2 (fun h=>by rw [h]at hj1;simp at hj1)
   cases hAe
   obtain⟨e0,e1,e2,e3,e4,e5,hva,g0,g1,g2,g3,g4,g5⟩:=hat j hj1
   obtain⟨v,hv⟩:∃v,v=kids[j]:=⟨_,rfl⟩
   have htk:kids.take (j+1)=kids.take j++[kids[j]]:=(List.take_append_getElem hj1).symm
   have hpv:=HP.out kids[j] (List.getElem_mem hj1)
   rw [←hv]at hva htk hpv
   clear hv
   have hva2:=hva
   obtain⟨Ak,ck,o',Ad,cd,heq,-,-⟩:=hva.parts'
   simp only [Value.agg.injEq,Array.mk.injEq,List.cons.injEq,and_true]at heq
   obtain⟨rfl,rfl,rfl,rfl,rfl,rfl⟩:=heq
   have kN:=(Keep.refl (fun _=>True) wr).alloc (.cells #[.int .i64 v.kind,.int .u64 (v.num:Int),.string ⟨v.text.toArray⟩,.slice Ak v.kids.length ck,.int .i64 o',.slice Ad v.desc.length cd] 78)
   have HC:=Lib.hid (hpv _ _ f short (hva2.keep kN) (HFR.out.new kN))
   have HTK:=Lib.hid htk
   have KN:=Lib.hid kN
   clear hat hva hva2 htk hpv kN
   go_wp2_with fail
   refine HC.out.mono ?_
   rintro e w4 ⟨sl4,bd,rfl,henc4,k4,hf4,hrow4⟩
   have k04:Keep (fun b=>b≠f) wr w4:=(New.keep KN.out _).trans k4
   have hr4:=HROW.out.keep k04 (fun b hb=>by show b≠f;omega)
   have henc5:=HENC.out.append henc4
   rw [←HTK.out]at henc5
   have hbl:bd.length≤900000000:=by
    have h1:=henc5.short
    have h2:=wts_take kids (j+1)
    simp only [List.length_append]at h1
    omega
   have hsz:w.heap.size+1≤wr.heap.size:=lt_blk HBR.out
   obtain⟨sk7,w7,hap,hrow7,k7,-⟩:=hr4.app hrow4.out.here (by omega) (Nat.le_trans hsz k04.size)
   have far7:=hr4.far
   obtain⟨A4,n4,c4,rfl⟩:∃A n c,sl4=.slice A n c:=(let ⟨A,c,e⟩:=hrow4.shape;⟨A,_,c,e⟩)
   obtain⟨A7,n7,c7,rfl⟩:∃A n c,sk7=.slice A n c:=(let ⟨A,c,e⟩:=hrow7.shape;⟨A,_,c,e⟩)
   have K7:=Lib.hid ((kr.trans k04).then k7 (fun i hi _=>far7 i (by omega)))
   have B7:=Lib.hid (k7.blk (k04.blk HBR.out (show w.heap.size≠f by omega)) (far7 _ (by omega)))
   have F7:Hid (FormsAt w7 f short):=Lib.hid (let ⟨st,h⟩:=hf4;⟨st,k7.blk h (far7 _ (by omega))⟩)
   have HAP:=Lib.hid hap
   have HR7:=Lib.hid hrow7
   have HE5:=Lib.hid henc5
   clear hap hrow7 k7 far7 hr4 k04 hrow4 henc4 henc5 hf4 k4
   go_wp2_with (at_builtin;refine wpList_append_eq rfl _ _ 27 rfl _ _ _ _ rfl rfl HAP.out ?_)
   go_roundg kk
   case measure=>omega
   case rel=>exact⟨j+1,data++bd,by omega,congrArg _ (by omega),K7.out,F7.out,HR7.out,HE5.out,B7.out⟩
end Go.Proofs.YtfoegolfadhmjaaGreatDoor
namespace Go.Proofs.YtfoegolfadhmjaaGreatDoor
open Go.RowKit Go.WideShapes
theorem row_piece{w:World}{base:Nat}{A:Option Addr}{m c:Nat}{ps:List (UInt8×List UInt8)}(h:RowG 143 2 Pcs w base (.slice A m c) ps)(j:Nat)(hj:j<ps.length):∃d s,A=some ⟨d,0,none⟩∧m=ps.length∧base≤d∧w.cell? ⟨d,j*2,none⟩=some (.int .i64 (ps[j].1.toNat:Int))∧w.cell? ⟨d,j*2+1,none⟩=some s∧Dep (fun b=>base≤b) w (fun w=>SlC w s ps[j].2):=by
 obtain⟨cells,⟨h1,h2⟩,hd⟩:=h
 obtain⟨s,g0,g1,_⟩:=hd.here.at j hj
 rcases h2 with⟨_,h0⟩ | ⟨g,cap,cur,hv,hg,hb,hn,hc,hs,ht⟩
 ·rw [h0]at hj;simp at hj
 ·injection hv with e1 e2 e3
  have get:∀q u,q<ps.length*2→cells[q]? =some u→w.cell? ⟨g,q,none⟩=some u:=fun q u hq hu=>by
   rw [blk_cell hb,←Array.getElem?_toList,←hu,←ht,List.getElem?_take_of_lt hq]
  refine⟨g,s,e1,e2,hg,get _ _ (by omega) g0,get _ _ (by omega) g1,(hd.mono fun b _ h=>h.1).imp fun w' h'=>?_⟩
  obtain⟨s',_,g1',h3⟩:=h'.at j hj
  rw [g1]at g1'
  injection g1' with e
  rw [e]
  exact h3
theorem VM.descM{w:World}{v:V}{a0 a1 a2 a3 a4 a5:Value}(h:VM w v (.agg #[a0,a1,a2,a3,a4,a5])):LM w v.desc a5:=by
 obtain⟨k,n,t,ks,o,ds⟩:=v
 obtain⟨sk,sd,e,_,_,hd⟩:=h.inv
 simp at e
 obtain⟨_,_,_,_,_,rfl⟩:=e
 exact hd
def PiecesC(v:V)(B:(UInt8×List UInt8)→Prop):Prop:=∀(w:World) (x:Value) (f:Nat) (short:Bool),VM w v x→FormsAt w f short→
 Calls Tryz.prog 62 #[.pointer (some ⟨f,0,none⟩),x] w fun e w'=>∃sl ps,e=.returned sl∧Keep (fun b=>b≠f) w w'∧FormsAt w' f short∧RowG 143 2 Pcs w' w.heap.size sl ps∧1≤ps.length∧ps.length≤4∧∀p∈ps,B p
theorem put_plain{v:V}{B:(UInt8×List UInt8)→Prop}(hB:PiecesC v B)(hw:wt v≤900000000)(hd:v.desc=[])(hE:∀p,B p→EncW [v] (p.1::p.2)):PutOK v:=by
 intro w x f short hx hf
 have hx0:=hx
 obtain⟨Ak,ck,o',Ad,cd,rfl,-,-⟩:=hx.parts'
 rw [hd]at hx0 ⊢
 simp only [List.length_cons,List.length_nil,Nat.zero_add]at hx0 ⊢
 have kb:=(Keep.refl (fun _=>True) w).alloc (.cells #[.int .i64 v.kind,.int .u64 (v.num:Int),.string ⟨v.text.toArray⟩,.slice Ak v.kids.length ck,.int .i64 o',.slice Ad 0 cd] 78)
 have hbx:=blk_new w (.cells #[.int .i64 v.kind,.int .u64 (v.num:Int),.string ⟨v.text.toArray⟩,.slice Ak v.kids.length ck,.int .i64 o',.slice Ad 0 cd] 78)
 have q0:=(blk_cell hbx 0).trans rfl
 have q1:=(blk_cell hbx 1).trans rfl
 have q2:=(blk_cell hbx 2).trans rfl
 have q3:=(blk_cell hbx 3).trans rfl
 have q4:=(blk_cell hbx 4).trans rfl
 have q5:=(blk_cell hbx 5).trans rfl
 have hfl:=hf.lt
 have hf1:=hf.new kb
 have HC:=Lib.hid (hB _ _ f short (hx0.keep kb) hf1)
 have HBX:=Lib.hid hbx
 clear hx hx0 hf hf1 hbx hB
 go_enter Tryz.func35,Tryz.ntmps35
 go_wp2_with fail
 refine HC.out.mono ?_
 rintro e w1 ⟨sl,ps,rfl,k1,hf1,row,hp1,hp4,hBp⟩
 have kw1:Keep (fun b=>b≠f) w w1:=(New.keep kb _).trans k1
 have hsz1:w.heap.size+1≤w1.heap.size:=by have:=k1.size;simp at this;omega
 have hr5:RowB w1 (w.heap.size+1) (.slice none 0 0) []:=RowB.nil
 obtain⟨B62,hB62'⟩:∃B,B=(w.alloc (.cells #[.int .i64 v.kind,.int .u64 (v.num:Int),.string ⟨v.text.toArray⟩,.slice Ak v.kids.length ck,.int .i64 o',.slice Ad 0 cd] 78)).heap.size:=⟨_,rfl⟩
 rw [←hB62']at row
 have hB62:w.heap.size+1≤B62:=by rw [hB62'];simp
 have hB1:B62≤w1.heap.size:=by rw [hB62'];exact k1.size
 have HOWN:Hid (∀b,B62≤b→some b≠(Value.slice none 0 0).ownBlock):=Lib.hid fun b _ e=>by cases e
 obtain⟨pre,hpre⟩:∃pre:List UInt8,pre=[]:=⟨_,rfl⟩
 have hpl:pre.length≤900000001:=by rw [hpre];simp
 rw [←hpre]at hr5
 have hfin:∀p,B p→EncW [v] (pre++(p.1::p.2)):=fun p hp=>by rw [hpre];exact hE p hp
 have hsh:=row.shape
 obtain⟨np,hnp⟩:∃np,np=ps.length:=⟨_,rfl⟩
 rw [←hnp]at hsh hp1 hp4
 obtain⟨A4,c4,rfl⟩:=hsh
 have HNP:=Lib.hid hnp
 have HPK:=Lib.hid (pick_is f np hp1 (by omega) short w1 hf1)
 have ROW:=Lib.hid row
 have HBP:=Lib.hid hBp
 have HFIN:=Lib.hid hfin
 have HR5:=Lib.hid hr5
 clear hnp hpre hf1 row hBp hfin hr5 hE
 go_wp2_with fail
 refine HPK.out.mono ?_
 rintro e w2 ⟨j,rfl,hj,k2,hf2⟩
 have hjp:j<ps.length:=by rw [←HNP.out];exact hj
 obtain⟨d4,sp,hAe,-,hd4,y0,y1,hsp⟩:=row_piece ROW.out j hjp
 cases hAe
 have hb62:w.heap.size+1≤B62:=hB62
 replace y0:=k2.cell y0 (show d4≠f by omega)
 replace y1:=k2.cell y1 (show d4≠f by omega)
 replace hsp:=hsp.keep k2 (fun b _ hb=>by show b≠f;omega)
 have hbp:=HBP.out _ (List.getElem_mem hjp)
 obtain⟨pc,hpc⟩:∃pc,pc=ps[j]:=⟨_,rfl⟩
 rw [←hpc]at y0 hsp hbp
 clear hpc
 have henc:=HFIN.out pc hbp
 have hlen:pc.2.length≤900000000:=by
  have h1:=henc.short
  simp only [wts,List.length_append,List.length_cons]at h1
  omega
 have HSP:=Lib.hid hsp
 obtain⟨As,cs,hse,-⟩:=hsp.here
 subst hse
 have tj:decide (j<np)=true:=by simpa using hj
 have kw2:Keep (fun b=>b≠f) w w2:=kw1.trans k2
 have kA:=((Keep.refl (fun _=>True) w2).alloc (.cells #[.int .i64 (pc.1.toNat:Int),.slice As pc.2.length cs] 143)).drew
 have kB:=kA.alloc (.cells #[.int .u8 (pc.1.toNat:Int)] 5)
 have hwrap:IntKind.u8.wrap (pc.1.toNat:Int)=(pc.1.toNat:Int):=by
  have:=pc.1.toNat_lt
  rw [IntKind.wrap_u8]
  omega
 have hr52:=(HR5.out.keep k2 (fun b hb=>by show b≠f;omega)).keep kB (fun _ _=>trivial)
 obtain⟨sk6,w6,hap6,hrow6,k6,own6⟩:=hr52.app (one_byte (w2.alloc (.cells #[.int .i64 (pc.1.toNat:Int),.slice As pc.2.length cs] 143)).drew pc.1) (by simp;omega) (by have:=k2.size;have:=kB.size;omega)
 have far5:=hr52.far
 have hBw:B62≤w2.heap.size:=Nat.le_trans hB1 k2.size
 have cA1:((w2.alloc (.cells #[.int .i64 (pc.1.toNat:Int),.slice As pc.2.length cs] 143)).drew).cell? ⟨w2.heap.size,1,none⟩=some (.slice As pc.2.length cs):=(blk_cell (blk_new w2 (.cells #[.int .i64 (pc.1.toNat:Int),.slice As pc.2.length cs] 143)) 1).trans rfl
 have c61:=k6.cell (cell_alloc cA1 (.cells #[.int .u8 (pc.1.toNat:Int)] 5)) (HOWN.out _ hBw)
 have hsp6:=((HSP.out.new kB).keep k6 (fun b _ hb=>HOWN.out b hb)).here
 obtain⟨sk7,w7,hap7,hrow7,k7,own7⟩:=hrow6.appC hsp6 (by simp;omega) (by have:=k2.size;have:=kB.size;have:=k6.size;omega)
 have far6:=hrow6.far
 obtain⟨A6,n6,c6,rfl⟩:∃A n c,sk6=.slice A n c:=(let ⟨A,c,e⟩:=hrow6.shape;⟨A,_,c,e⟩)
 have KW:=Lib.hid (((kw2.trans (New.keep kB _)).then k6 (fun i hi _=>far5 i (by omega))).then k7 (fun i hi _=>far6 i (by omega)))
 have F7:Hid (FormsAt w7 f short):=Lib.hid (let ⟨st,h⟩:=hf2;⟨st,k7.blk (k6.blk (kB.blk h trivial) (far5 _ (by omega))) (far6 _ (by omega))⟩)
 have R7:=Lib.hid (show RowB w7 w.heap.size sk7 (pre++(pc.1::pc.2)) by have:=hrow7.mono (Nat.le_succ w.heap.size);rwa [List.append_assoc,List.singleton_append]at this)
 have ENC:=Lib.hid henc
 simp only [World.size_alloc,World.size_drew]at hap6
 clear HPK HFIN HBP hrow6 hrow7 k6 k7 own6 own7 far5 far6 kA kB hr52 hsp hsp6 henc hbp hf2
 go_wp2_with fail
 go_region_law (first
  | (refine at_dst 35 (by rfl) ?_;refine step_append_eq hap6 (by rfl) _ _ (by rfl) (by rfl) (by rfl) ?_)
  | (refine at_dst 38 (by rfl) ?_;refine step_append_eq hap7 (by rfl) _ _ (by rfl) (by rfl) (by rfl) ?_))
 all_goals
  go_wp2
  go_ret
  exact⟨_,_,rfl,ENC.out,KW.out,F7.out,R7.out⟩
theorem put_desc{v:V}{B:(UInt8×List UInt8)→Prop}(hB:PiecesC v B)(hw:wt v≤900000000){d:V}(hd:v.desc=[d])(hP:PutOK d)(hE:∀p bd,B p→EncW [d] bd→EncW [v] (0::(bd++(p.1::p.2)))):PutOK v:=by
 intro w x f short hx hf
 have hx0:=hx
 obtain⟨Ak,ck,o',Ad,cd,rfl,-,-⟩:=hx.parts'
 rw [hd]at hx0 ⊢
 simp only [List.length_cons,List.length_nil,Nat.zero_add]at hx0 ⊢
 have kb:=(Keep.refl (fun _=>True) w).alloc (.cells #[.int .i64 v.kind,.int .u64 (v.num:Int),.string ⟨v.text.toArray⟩,.slice Ak v.kids.length ck,.int .i64 o',.slice Ad 1 cd] 78)
 have hbx:=blk_new w (.cells #[.int .i64 v.kind,.int .u64 (v.num:Int),.string ⟨v.text.toArray⟩,.slice Ak v.kids.length ck,.int .i64 o',.slice Ad 1 cd] 78)
 have q0:=(blk_cell hbx 0).trans rfl
 have q1:=(blk_cell hbx 1).trans rfl
 have q2:=(blk_cell hbx 2).trans rfl
 have q3:=(blk_cell hbx 3).trans rfl
 have q4:=(blk_cell hbx 4).trans rfl
 have q5:=(blk_cell hbx 5).trans rfl
 have hfl:=hf.lt
 have hf1:=hf.new kb
 have hdm:=hx0.descM
 rw [hd]at hdm
 have kb2:=kb.alloc (.cells #[.int .u8 0] 5)
 obtain⟨d3,i3,hAe,-,-,-,hat⟩:=(hdm.keep kb2).at2 (by simp)
 cases hAe
 obtain⟨e0,e1,e2,e3,e4,e5,hva,g0,g1,g2,g3,g4,g5⟩:=hat 0 (by simp)
 simp only [List.getElem_cons_zero,Nat.zero_mul,Nat.add_zero]at hva g0 g1 g2 g3 g4 g5
 have HC1:=Lib.hid (hP _ _ f short hva (hf.new kb2))
 have HBX:=Lib.hid hbx
 have HX0:=Lib.hid hx0
 have HFW:=Lib.hid hf
 have HB:=Lib.hid hB
 have HR0:=Lib.hid (RowB.made (X:=w.alloc (.cells #[.int .i64 v.kind,.int .u64 (v.num:Int),.string ⟨v.text.toArray⟩,.slice Ak v.kids.length ck,.int .i64 o',.slice (some ⟨d3,i3,none⟩) 1 cd] 78)) (base:=w.heap.size+1) (by simp) [0] (by simp))
 clear hx hx0 hf hf1 hbx hB hat hva hdm
 go_enter Tryz.func35,Tryz.ntmps35
 go_wp2_with fail
 refine HC1.out.mono ?_
 rintro e w0 ⟨sd,bd,rfl,hencd,k0,hf0,rowd⟩
 have kw0:Keep (fun b=>b≠f) w w0:=(New.keep kb2 _).trans k0
 have hsz0:w.heap.size+2≤w0.heap.size:=by have:=k0.size;simp at this;omega
 have hr0:=HR0.out.keep k0 (fun b hb=>by show b≠f;omega)
 have hbdl:bd.length≤900000000:=by
  have h1:=hencd.short
  have h2:wts [d]≤wt v:=by
   obtain⟨k,n,t,ks,o,ds⟩:=v
   simp only [V.desc]at hd
   subst hd
   simp only [wt]
   omega
  omega
 obtain⟨sk1,w01,hap1,hrow1,k01,-⟩:=hr0.app rowd.out.here (by simp;omega) (by omega)
 simp only [World.size_alloc]at hap1
 have far0:=hr0.far
 obtain⟨As1,ns1,cs1,rfl⟩:∃A n c,sd=.slice A n c:=(let ⟨A,c,e⟩:=rowd.shape;⟨A,_,c,e⟩)
 obtain⟨A1,n1,c1,rfl⟩:∃A n c,sk1=.slice A n c:=(let ⟨A,c,e⟩:=hrow1.shape;⟨A,_,c,e⟩)
 have kw01:Keep (fun b=>b≠f) w w01:=kw0.then k01 (fun i hi _=>far0 i (by omega))
 have hf01:FormsAt w01 f short:=(let ⟨st,h⟩:=hf0;⟨st,k01.blk h (far0 _ (by omega))⟩)
 have hb01:=k01.blk (k0.blk (blk_alloc HBX.out (.cells #[.int .u8 0] 5)) (show w.heap.size≠f by omega)) (far0 _ (by omega))
 have r0:=(blk_cell hb01 0).trans rfl
 have r1:=(blk_cell hb01 1).trans rfl
 have r2:=(blk_cell hb01 2).trans rfl
 have r3:=(blk_cell hb01 3).trans rfl
 have r4:=(blk_cell hb01 4).trans rfl
 have r5:=(blk_cell hb01 5).trans rfl
 have HC:=Lib.hid (HB.out _ _ f short (let ⟨st,h⟩:=HFW.out;HX0.out.keepN h (by simp) kw01) hf01)
 have HAP1:=Lib.hid hap1
 have HR1:=Lib.hid hrow1
 have HEN:=Lib.hid hencd
 have hs01:w.heap.size+2≤w01.heap.size:=Nat.le_trans hsz0 k01.size
 clear hap1 hrow1 hencd hf01 hb01 k01 far0 hr0 rowd k0 hf0
 go_wp2_with (at_builtin;refine wpList_append_eq rfl _ _ 27 rfl _ _ _ _ rfl rfl HAP1.out ?_)
 refine HC.out.mono ?_
 rintro e w1 ⟨sl,ps,rfl,k1,hf1,row,hp1,hp4,hBp⟩
 have kw1:Keep (fun b=>b≠f) w w1:=kw01.trans k1
 have hsz1:w.heap.size+1≤w1.heap.size:=by have:=k1.size;omega
 have hr5:RowB w1 (w.heap.size+1) (.slice A1 n1 c1) ([0]++bd):=HR1.out.keep k1 (fun b hb=>by show b≠f;omega)
 obtain⟨B62,hB62'⟩:∃B,B=w01.heap.size:=⟨_,rfl⟩
 rw [←hB62']at row
 have hB62:w.heap.size+1≤B62:=by omega
 have hB1:B62≤w1.heap.size:=by rw [hB62'];exact k1.size
 have HOWN:Hid (∀b,B62≤b→some b≠(Value.slice A1 n1 c1).ownBlock):=Lib.hid fun b hb e=>by have:=HR1.out.lt e.symm;omega
 obtain⟨pre,hpre⟩:∃pre:List UInt8,pre=[0]++bd:=⟨_,rfl⟩
 have hpl:pre.length≤900000001:=by rw [hpre];simp;omega
 rw [←hpre]at hr5
 have hfin:∀p,B p→EncW [v] (pre++(p.1::p.2)):=fun p hp=>by rw [hpre];exact hE p bd hp HEN.out
 have hsh:=row.shape
 obtain⟨np,hnp⟩:∃np,np=ps.length:=⟨_,rfl⟩
 rw [←hnp]at hsh hp1 hp4
 obtain⟨A4,c4,rfl⟩:=hsh
 have HNP:=Lib.hid hnp
 have HPK:=Lib.hid (pick_is f np hp1 (by omega) short w1 hf1)
 have ROW:=Lib.hid row
 have HBP:=Lib.hid hBp
 have HFIN:=Lib.hid hfin
 have HR5:=Lib.hid hr5
 clear hnp hpre hf1 row hBp hfin hr5 hE
 go_wp2_with fail
 refine HPK.out.mono ?_
 rintro e w2 ⟨j,rfl,hj,k2,hf2⟩
 have hjp:j<ps.length:=by rw [←HNP.out];exact hj
 obtain⟨d4,sp,hAe,-,hd4,y0,y1,hsp⟩:=row_piece ROW.out j hjp
 cases hAe
 have hb62:w.heap.size+1≤B62:=hB62
 replace y0:=k2.cell y0 (show d4≠f by omega)
 replace y1:=k2.cell y1 (show d4≠f by omega)
 replace hsp:=hsp.keep k2 (fun b _ hb=>by show b≠f;omega)
 have hbp:=HBP.out _ (List.getElem_mem hjp)
 obtain⟨pc,hpc⟩:∃pc,pc=ps[j]:=⟨_,rfl⟩
 rw [←hpc]at y0 hsp hbp
 clear hpc
 have henc:=HFIN.out pc hbp
 have hlen:pc.2.length≤900000000:=by
  have h1:=henc.short
  simp only [wts,List.length_append,List.length_cons]at h1
  omega
 have HSP:=Lib.hid hsp
 obtain⟨As,cs,hse,-⟩:=hsp.here
 subst hse
 have tj:decide (j<np)=true:=by simpa using hj
 have kw2:Keep (fun b=>b≠f) w w2:=kw1.trans k2
 have kA:=((Keep.refl (fun _=>True) w2).alloc (.cells #[.int .i64 (pc.1.toNat:Int),.slice As pc.2.length cs] 143)).drew
 have kB:=kA.alloc (.cells #[.int .u8 (pc.1.toNat:Int)] 5)
 have hwrap:IntKind.u8.wrap (pc.1.toNat:Int)=(pc.1.toNat:Int):=by
  have:=pc.1.toNat_lt
  rw [IntKind.wrap_u8]
  omega
 have hr52:=(HR5.out.keep k2 (fun b hb=>by show b≠f;omega)).keep kB (fun _ _=>trivial)
 obtain⟨sk6,w6,hap6,hrow6,k6,own6⟩:=hr52.app (one_byte (w2.alloc (.cells #[.int .i64 (pc.1.toNat:Int),.slice As pc.2.length cs] 143)).drew pc.1) (by simp;omega) (by have:=k2.size;have:=kB.size;omega)
 have far5:=hr52.far
 have hBw:B62≤w2.heap.size:=Nat.le_trans hB1 k2.size
 have cA1:((w2.alloc (.cells #[.int .i64 (pc.1.toNat:Int),.slice As pc.2.length cs] 143)).drew).cell? ⟨w2.heap.size,1,none⟩=some (.slice As pc.2.length cs):=(blk_cell (blk_new w2 (.cells #[.int .i64 (pc.1.toNat:Int),.slice As pc.2.length cs] 143)) 1).trans rfl
 have c61:=k6.cell (cell_alloc cA1 (.cells #[.int .u8 (pc.1.toNat:Int)] 5)) (HOWN.out _ hBw)
 have hsp6:=((HSP.out.new kB).keep k6 (fun b _ hb=>HOWN.out b hb)).here
 obtain⟨sk7,w7,hap7,hrow7,k7,own7⟩:=hrow6.appC hsp6 (by simp;omega) (by have:=k2.size;have:=kB.size;have:=k6.size;omega)
 have far6:=hrow6.far
 obtain⟨A6,n6,c6,rfl⟩:∃A n c,sk6=.slice A n c:=(let ⟨A,c,e⟩:=hrow6.shape;⟨A,_,c,e⟩)
 have KW:=Lib.hid (((kw2.trans (New.keep kB _)).then k6 (fun i hi _=>far5 i (by omega))).then k7 (fun i hi _=>far6 i (by omega)))
 have F7:Hid (FormsAt w7 f short):=Lib.hid (let ⟨st,h⟩:=hf2;⟨st,k7.blk (k6.blk (kB.blk h trivial) (far5 _ (by omega))) (far6 _ (by omega))⟩)
 have R7:=Lib.hid (show RowB w7 w.heap.size sk7 (pre++(pc.1::pc.2)) by have:=hrow7.mono (Nat.le_succ w.heap.size);rwa [List.append_assoc,List.singleton_append]at this)
 have ENC:=Lib.hid henc
 simp only [World.size_alloc,World.size_drew]at hap6
 clear HPK HFIN HBP hrow6 hrow7 k6 k7 own6 own7 far5 far6 kA kB hr52 hsp hsp6 henc hbp hf2
 go_wp2_with fail
 go_region_law (first
  | (refine at_dst 35 (by rfl) ?_;refine step_append_eq hap6 (by rfl) _ _ (by rfl) (by rfl) (by rfl) ?_)
  | (refine at_dst 38 (by rfl) ?_;refine step_append_eq hap7 (by rfl) _ _ (by rfl) (by rfl) (by rfl) ?_))
 all_goals
  go_wp2
  go_ret
  exact⟨_,_,rfl,ENC.out,KW.out,F7.out,R7.out⟩
end Go.Proofs.YtfoegolfadhmjaaGreatDoor
namespace Go.Proofs.YtfoegolfadhmjaaGreatDoor
open Go.RowKit Go.WideShapes
theorem pieces_23{k:Int}{ks:List V}(h:ArrOk k ks)(hm:ks.length≤1000)(hne:ks≠[])(f:Nat)(short:Bool)(w:World)(s:Value)(hs:LM w ks s)(hf:FormsAt w f short)(o:Int)(A2:Option Addr)(b c2:Nat):
 Calls Tryz.prog 62 #[.pointer (some ⟨f,0,none⟩),.agg #[.int .i64 23,.int .u64 0,.string ⟨#[]⟩,s,.int .i64 o,.slice A2 b c2]] w fun e w'=>∃sl code data,e=.returned sl∧Keep (fun b=>b≠f) w w'∧FormsAt w' f short∧RowG 143 2 Pcs w' w.heap.size sl (lngc 224 240 (code::data) ks.length)∧EncA ks code data∧data.length≤131084000:=by
 obtain⟨A,c,rfl,-,-⟩:=hs.shape
 have kb:=(Keep.refl (fun _=>True) w).alloc (.cells #[.int .i64 23,.int .u64 0,.string ⟨#[]⟩,.slice A ks.length c,.int .i64 o,.slice A2 b c2] 78)
 have H:=Lib.hid (array_is h hm hne f short _ _ (hs.keep kb) (hf.new kb) o A2 b c2)
 have hz:=kb.size
 clear hs hf
 obtain⟨n,hn⟩:∃n,n=ks.length:=⟨_,rfl⟩
 rw [←hn]at H kb hz ⊢
 clear hn
 go_enter Tryz.func62,Tryz.ntmps62
 go_wp2_with fail
 refine H.out.mono ?_
 rintro e w1 ⟨sl,code,data,rfl,k1,hf1,row,henc,hl⟩
 have R:=Lib.hid (row.mono hz)
 go_wp2
 go_ret
 exact⟨_,code,data,rfl,(New.keep kb _).trans k1,hf1,R.out,henc,hl⟩
theorem AbleW.mem{l:List V}(h:AbleW l):∀v∈l,AbleW [v]:=by
 induction h with
 | nil=>intro v hv;simp at hv
 | plain h hs ih=>exact fun v hv=>(List.mem_cons.1 hv).elim (fun e=>e▸.plain h .nil) (ih v)
 | comp hc hk hm hs _ ih=>exact fun v hv=>(List.mem_cons.1 hv).elim (fun e=>e▸.comp hc hk hm .nil) (ih v)
theorem wt_mem{l:List V}{v:V}(h:v∈l):wt v≤wts l:=by
 induction l with
 | nil=>simp at h
 | cons x l ih=>
   rcases List.mem_cons.1 h with rfl | h
   ·simp [wts]
   ·have:=ih h
    simp only [wts]
    omega
theorem cnt_mem{l:List V}{v:V}(h:v∈l):cnt v≤cnts l:=by
 induction l with
 | nil=>simp at h
 | cons x l ih=>
   rcases List.mem_cons.1 h with rfl | h
   ·simp [cnts]
   ·have:=ih h
    simp only [cnts]
    omega
theorem leaf_pieces{v:V}(h:LeafOk v):PiecesC v (fun p=>p∈pcs v):=by
 intro w x f short hx hf
 obtain⟨Ak,ck,o',Ad,cd,rfl,-,ho⟩:=hx.parts'
 subst ho
 refine(pieces_leaf h (.pointer (some ⟨f,0,none⟩)) Ak Ad v.kids.length ck v.desc.length cd w).mono ?_
 rintro e w1 ⟨sl,rfl,k1,row⟩
 obtain⟨h1,h2⟩:=pcs_len h
 exact⟨sl,_,rfl,New.keep k1 _,hf.new k1,row,h1,by omega,fun p hp=>hp⟩
theorem list_pieces{kids ds:List V}{o:Int}(hput:∀v∈kids,PutOK v)(hw:wts kids≤900000000)(hm:kids.length≤1000):PiecesC (.mk 21 0 [] kids o ds) (fun p=>∃body,EncW kids body∧p∈listP kids body):=by
 intro w x f short hx hf
 obtain⟨sk,sd,rfl,-,hk,hd⟩:=hx.inv
 obtain⟨A2,c2,rfl,-⟩:=hd.shape
 refine(pieces_21 hput hw hm f short w sk hk hf o A2 ds.length c2).mono ?_
 rintro e w1 ⟨sl,body,rfl,k1,hf1,henc,row⟩
 have hl:=lngc_len 192 208 body kids.length
 refine⟨sl,_,rfl,k1,hf1,row,?_,?_,fun p hp=>⟨body,henc,hp⟩⟩
 ·unfold listP;rw [List.length_append];omega
 ·unfold listP;rw [List.length_append];split<;>simp<;>omega
theorem map_pieces{kids ds:List V}{o:Int}(hput:∀v∈kids,PutOK v)(hw:wts kids≤900000000)(hm:kids.length≤1000):PiecesC (.mk 22 0 [] kids o ds) (fun p=>∃body,EncW kids body∧p∈lngc 193 209 body kids.length):=by
 intro w x f short hx hf
 obtain⟨sk,sd,rfl,-,hk,hd⟩:=hx.inv
 obtain⟨A2,c2,rfl,-⟩:=hd.shape
 refine(pieces_22 hput hw hm f short w sk hk hf o A2 ds.length c2).mono ?_
 rintro e w1 ⟨sl,body,rfl,k1,hf1,henc,row⟩
 have hl:=lngc_len 193 209 body kids.length
 exact⟨sl,_,rfl,k1,hf1,row,by omega,by omega,fun p hp=>⟨body,henc,hp⟩⟩
theorem arr_pieces{k:Int}{kids ds:List V}{o:Int}(h:ArrOk k kids)(hm:kids.length≤1000)(hne:kids≠[]):PiecesC (.mk 23 0 [] kids o ds) (fun p=>∃code data,EncA kids code data∧data.length≤131084000∧p∈lngc 224 240 (code::data) kids.length):=by
 intro w x f short hx hf
 obtain⟨sk,sd,rfl,-,hk,hd⟩:=hx.inv
 obtain⟨A2,c2,rfl,-⟩:=hd.shape
 refine(pieces_23 h hm hne f short w sk hk hf o A2 ds.length c2).mono ?_
 rintro e w1 ⟨sl,code,data,rfl,k1,hf1,row,henc,hl⟩
 have hl2:=lngc_len 224 240 (code::data) kids.length
 exact⟨sl,_,rfl,k1,hf1,row,by omega,by omega,fun p hp=>⟨code,data,henc,hl,hp⟩⟩
theorem leaf5{c:Nat}{od:Int}{b:List UInt8}(h:EncW [.mk 5 c [] [] od []] b):Leaf (.mk 5 c [] [] od []) b:=by
 obtain⟨l,hl⟩:∃l,l=[V.mk 5 c [] [] od []]:=⟨_,rfl⟩
 rw [←hl]at h
 cases h with
 | nil=>simp at hl
 | comp0 hd hs=>simp at hl
 | comp hd hk hh hm hs=>simp at hl
 | plain h hs=>
   simp only [List.cons.injEq]at hl
   obtain⟨rfl,rfl⟩:=hl
   cases hs
   rw [List.append_nil]
   obtain⟨m,hm⟩:∃m,m=[V.mk 5 c [] [] od []]:=⟨_,rfl⟩
   rw [←hm]at h
   cases h with
   | nil=>simp at hm
   | list0 hs=>simp at hm
   | list hk hh hm' hs=>simp at hm
   | map hk hh hm' ok hs=>simp at hm
   | arr hk hh hm' hne hs=>simp at hm
   | leaf h hs=>
     simp only [List.cons.injEq]at hm
     obtain⟨rfl,rfl⟩:=hm
     cases hs
     rw [List.append_nil]
     exact h
theorem EncV.one{v:V}{b:List UInt8}(h:EncV [v] b):EncW [v] b:=by
 have:=EncW.plain h .nil
 rwa [List.append_nil]at this
theorem put_ok(N:Nat):∀v,cnt v≤N→AbleW [v]→wt v≤900000000→PutOK v:=by
 induction N with
 | zero=>intro v h;obtain⟨k,n,t,ks,o,ds⟩:=v;simp [cnt]at h
 | succ N ih=>
   intro v hN hA hw
   obtain⟨l,hl⟩:∃l,l=[v]:=⟨_,rfl⟩
   rw [←hl]at hA
   have kidsW:∀{k:Int} {n:Nat} {t:List UInt8} {kids ds:List V} {o:Int},v=.mk k n t kids o ds→AbleW kids→(∀u∈kids,PutOK u)∧wts kids≤900000000:=by
    intro k n t kids ds o e hk
    subst e
    simp only [cnt,wt]at hN hw
    exact⟨fun u hu=>ih u (by have:=cnt_mem hu;omega) (hk.mem u hu) (by have:=wt_mem hu;omega),by omega⟩
   cases hA with
   | nil=>simp at hl
   | @plain v' vs' h hs=>
     simp only [List.cons.injEq]at hl
     obtain⟨rfl,rfl⟩:=hl
     obtain⟨m,hm⟩:∃m,m=[v']:=⟨_,rfl⟩
     rw [←hm]at h
     cases h with
     | nil=>simp at hm
     | leaf h hs=>
       simp only [List.cons.injEq]at hm
       obtain⟨rfl,rfl⟩:=hm
       refine put_plain (leaf_pieces h) hw h.desc fun p hp=>EncV.one ?_
       have:=EncV.leaf (pcs_leaf h p hp) .nil
       rwa [List.append_nil]at this
     | list hk hmm hs=>
       simp only [List.cons.injEq]at hm
       obtain⟨rfl,rfl⟩:=hm
       obtain⟨h1,h2⟩:=kidsW rfl hk.toW
       refine put_plain (list_pieces h1 h2 hmm) hw rfl fun p hp=>EncV.one ?_
       obtain⟨body,h3,h4⟩:=hp
       exact listP_enc (h3.toV hk.noDesc) hmm (by have:=h3.short;omega) p h4
     | map hk hmm ok hs=>
       simp only [List.cons.injEq]at hm
       obtain⟨rfl,rfl⟩:=hm
       obtain⟨h1,h2⟩:=kidsW rfl hk.toW
       refine put_plain (map_pieces h1 h2 (by rw [flat2_len];exact hmm)) hw rfl fun p hp=>EncV.one ?_
       obtain⟨body,h3,h4⟩:=hp
       exact mapP_enc (h3.toV hk.noDesc) hmm ok (by have:=h3.short;omega) p h4
     | arr hk hmm hne hs=>
       simp only [List.cons.injEq]at hm
       obtain⟨rfl,rfl⟩:=hm
       refine put_plain (arr_pieces hk hmm hne) hw rfl fun p hp=>EncV.one ?_
       obtain⟨code,data,h3,h4,h5⟩:=hp
       exact arrP_enc h3 hmm hne (by omega) p h5
   | @comp o od c kids vs hc hk hmm hs=>
     simp only [List.cons.injEq]at hl
     obtain⟨rfl,rfl⟩:=hl
     obtain⟨h1,h2⟩:=kidsW rfl hk
     have hd5:PutOK (.mk 5 c [] [] od []):=ih _ (by simp only [cnt,cnts]at hN ⊢;omega) (.plain (.leaf (.u64 _ _ hc) .nil) .nil) (by simp [wt,wts])
     refine put_desc (list_pieces h1 h2 hmm) hw rfl hd5 fun p bd hp hbd=>?_
     obtain⟨body,h3,h4⟩:=hp
     exact compP_enc (leaf5 hbd) h3 hmm (by have:=h3.short;omega) p h4
end Go.Proofs.YtfoegolfadhmjaaGreatDoor
namespace Go.Proofs.YtfoegolfadhmjaaGreatDoor
open Go.RowKit Go.WideShapes
def Inside(v u:V):Prop:=u=v∨v.kind=23∧v.kids=[u]∧u.kind=20
theorem set6_keep{ok:Nat→Prop}{W w2:World}{p:Nat}(h:Keep ok W w2)(hp:W.heap.size≤p∨¬ok p)(a0 a1 a2 a3 a4 a5:Value):Keep ok W ((((((w2.setCell ⟨p,0,none⟩ a0).setCell ⟨p,1,none⟩ a1).setCell ⟨p,2,none⟩ a2).setCell ⟨p,3,none⟩ a3).setCell ⟨p,4,none⟩ a4).setCell ⟨p,5,none⟩ a5):=
 (((((h.setCell (p:=⟨p,0,none⟩) hp a0).setCell (p:=⟨p,1,none⟩) hp a1).setCell (p:=⟨p,2,none⟩) hp a2).setCell (p:=⟨p,3,none⟩) hp a3).setCell (p:=⟨p,4,none⟩) hp a4).setCell (p:=⟨p,5,none⟩) hp a5
theorem VM.pick{w w':World}{f:Nat}{short:Bool}{v:V}{x:Value}(h:VM w v x)(hf:FormsAt w f short)(k:Keep (fun b=>b≠f) w w'):VM w' v x:=by
 obtain⟨st,hf⟩:=hf
 exact h.keepN hf (by simp) k
def InsideP(W w:World)(f:Nat)(short:Bool)(v:V)(w':World)(y:Value):Prop:=Keep (fun b=>b≠f) w w'∧FormsAt w' f short∧∃u,Inside v u∧VM W u y
theorem inside_is(v:V)(W w:World)(x:Value)(f:Nat)(short:Bool)(hx:VM W v x)(K0:Keep (fun b=>b≠f) W w)(hfW:FormsAt W f short)(hf:FormsAt w f short):
 Calls Tryz.prog 34 #[.pointer (some ⟨f,0,none⟩),x] w fun e w'=>∃y,e=.returned y∧InsideP W w f short v w' y:=by
 obtain⟨k,n,t,ks,o,ds⟩:=v
 have HX:=Lib.hid hx
 obtain⟨sk,sd,rfl,hn,hk,hd⟩:=hx.inv
 obtain⟨A1,c1,rfl,-⟩:=hk.shape
 obtain⟨A2,c2,rfl,-⟩:=hd.shape
 obtain⟨a,ha⟩:∃a,a=ks.length:=⟨_,rfl⟩
 obtain⟨b,hb⟩:∃b,b=ds.length:=⟨_,rfl⟩
 rw [←ha]at hk HX ⊢
 rw [←hb]at HX ⊢
 have kb:=((Keep.refl (fun _=>True) w).alloc (.cells #[.int .i64 k,.int .u64 (n:Int),.string ⟨t.toArray⟩,.slice A1 a c1,.int .i64 o,.slice A2 b c2] 78)).alloc (.cells #[.int .i64 0,.int .u64 0,.string ⟨#[]⟩,.slice none 0 0,.int .i64 0,.slice none 0 0] 78)
 have hf1:=Lib.hid (hf.new kb)
 have HF0:=Lib.hid hf
 have HFW:=Lib.hid hfW
 have HK0:=Lib.hid K0
 have HK:=Lib.hid hk
 have M:=Lib.hid ha
 clear hx hd hn hk hb ha hf hfW K0
 have kx:=((Keep.refl (fun _=>True) w).alloc (.cells #[.int .i64 k,.int .u64 (n:Int),.string ⟨t.toArray⟩,.slice A1 a c1,.int .i64 o,.slice A2 b c2] 78)).alloc (.cells #[.int .i64 k,.int .u64 (n:Int),.string ⟨t.toArray⟩,.slice A1 a c1,.int .i64 o,.slice A2 b c2] 78)
 have KXh:=Lib.hid kx
 have FX:=Lib.hid (HF0.out.new kx)
 clear kx
 have done:InsideP W w f short (.mk k n t ks o ds) ((w.alloc (.cells #[.int .i64 k,.int .u64 (n:Int),.string ⟨t.toArray⟩,.slice A1 a c1,.int .i64 o,.slice A2 b c2] 78)).alloc (.cells #[.int .i64 k,.int .u64 (n:Int),.string ⟨t.toArray⟩,.slice A1 a c1,.int .i64 o,.slice A2 b c2] 78)) (.agg #[.int .i64 k,.int .u64 (n:Int),.string ⟨t.toArray⟩,.slice A1 a c1,.int .i64 o,.slice A2 b c2]):=⟨New.keep KXh.out _,FX.out,_,.inl rfl,HX.out⟩
 have DONE:=Lib.hid done
 clear done
 by_cases h23:k=23
 ·subst h23
  by_cases h1:a=1
  ·subst h1
   obtain⟨u,rfl⟩:∃u,ks=[u]:=List.length_eq_one_iff.1 M.out.symm
   obtain⟨d,i,hAe,-,-,-,hat⟩:=HK.out.at2 (by simp)
   cases hAe
   obtain⟨e0,e1,e2,e3,e4,e5,hva,w0,w1,w2',w3,w4,w5⟩:=hat 0 (by simp)
   simp only [List.getElem_cons_zero,Nat.zero_mul,Nat.add_zero]at hva w0 w1 w2' w3 w4 w5
   have hva2:=hva
   obtain⟨Ak,ck,o',Ad,cd,heq,-,-⟩:=hva.parts'
   simp only [Value.agg.injEq,Array.mk.injEq,List.cons.injEq,and_true]at heq
   obtain⟨rfl,rfl,rfl,rfl,rfl,rfl⟩:=heq
   have hdf:d≠f:=by
    rintro rfl
    obtain⟨st,hh⟩:=HFW.out
    rw [blk_cell hh]at w2'
    simp at w2'
   have g0:=kb.cell (HK0.out.cell w0 hdf) trivial
   have HW0:=Lib.hid w0
   have HW1:=Lib.hid w1
   have HW2:=Lib.hid w2'
   have HW3:=Lib.hid w3
   have HW4:=Lib.hid w4
   have HW5:=Lib.hid w5
   have HV:=Lib.hid hva2
   clear hat hva hva2 w0 w1 w2' w3 w4 w5
   by_cases h20:u.kind=20
   ·rw [h20]at g0
    have HPK:=Lib.hid (pick_is f 2 (by omega) (by omega) short _ hf1.out)
    have HZ:=Lib.hid (blk_new (w.alloc (.cells #[.int .i64 23,.int .u64 (n:Int),.string ⟨t.toArray⟩,.slice (some ⟨d,i,none⟩) 1 c1,.int .i64 o,.slice A2 b c2] 78)) (.cells #[.int .i64 0,.int .u64 0,.string ⟨#[]⟩,.slice none 0 0,.int .i64 0,.slice none 0 0] 78))
    have HBB:=Lib.hid (blk_alloc (blk_new w (.cells #[.int .i64 23,.int .u64 (n:Int),.string ⟨t.toArray⟩,.slice (some ⟨d,i,none⟩) 1 c1,.int .i64 o,.slice A2 b c2] 78)) (.cells #[.int .i64 0,.int .u64 0,.string ⟨#[]⟩,.slice none 0 0,.int .i64 0,.slice none 0 0] 78))
    go_enter Tryz.func34,Tryz.ntmps34
    go_wp2_with fail
    refine HPK.out.mono ?_
    rintro e w2 ⟨j,rfl,hj,k2,hf2⟩
    have hfX:f<w.heap.size:=HF0.out.lt
    have hz0:=HZ.out
    simp only [World.size_alloc]at hz0
    have hz:=k2.blk hz0 (show w.heap.size+1≠f by omega)
    have hbb:=k2.blk HBB.out (show w.heap.size≠f by omega)
    have kw2:Keep (fun b=>b≠f) w w2:=(New.keep kb _).trans k2
    have F0:=blk_free hz 0
    have F1:=blk_free hz 1
    have F2:=blk_free hz 2
    have F3:=blk_free hz 3
    have F4:=blk_free hz 4
    have F5:=blk_free hz 5
    have z0:=(blk_cell hz 0).trans rfl
    have z1:=(blk_cell hz 1).trans rfl
    have z2:=(blk_cell hz 2).trans rfl
    have z3:=(blk_cell hz 3).trans rfl
    have z4:=(blk_cell hz 4).trans rfl
    have z5:=(blk_cell hz 5).trans rfl
    have b0:=(blk_cell hbb 0).trans rfl
    have b1:=(blk_cell hbb 1).trans rfl
    have b2:=(blk_cell hbb 2).trans rfl
    have b3:=(blk_cell hbb 3).trans rfl
    have b4:=(blk_cell hbb 4).trans rfl
    have b5:=(blk_cell hbb 5).trans rfl
    have hFX:∀a0 a1 a2 a3 a4 a5,FormsAt ((((((w2.setCell ⟨w.heap.size+1,0,none⟩ a0).setCell ⟨w.heap.size+1,1,none⟩ a1).setCell ⟨w.heap.size+1,2,none⟩ a2).setCell ⟨w.heap.size+1,3,none⟩ a3).setCell ⟨w.heap.size+1,4,none⟩ a4).setCell ⟨w.heap.size+1,5,none⟩ a5) f short:=fun a0 a1 a2 a3 a4 a5=>let ⟨st,h⟩:=hf2;⟨st,(set6_keep (Keep.refl (fun b=>b≠w.heap.size+1) w2) (.inr (by simp)) a0 a1 a2 a3 a4 a5).blk h (by omega)⟩
    have hKX:=fun a0 a1 a2 a3 a4 a5=>set6_keep kw2 (p:=w.heap.size+1) (.inl (by omega)) a0 a1 a2 a3 a4 a5
    have HKX:=Lib.hid hKX
    have HFX:=Lib.hid hFX
    clear hKX hFX
    rcases j with _ | _ | j
    ·have y0:=kw2.cell (HK0.out.cell HW0.out hdf) hdf
     have y1:=kw2.cell (HK0.out.cell HW1.out hdf) hdf
     have y2:=kw2.cell (HK0.out.cell HW2.out hdf) hdf
     have y3:=kw2.cell (HK0.out.cell HW3.out hdf) hdf
     have y4:=kw2.cell (HK0.out.cell HW4.out hdf) hdf
     have y5:=kw2.cell (HK0.out.cell HW5.out hdf) hdf
     rw [h20]at y0
     go_wp2
     refine bodyPost_ret (v:=.agg #[.int .i64 20,.int .u64 (u.num:Int),.string ⟨u.text.toArray⟩,.slice Ak u.kids.length ck,.int .i64 o',.slice Ad u.desc.length cd]) (by simp [results,Tryz.results34,go_sem,z0,z1,z2,z3,z4,z5]) rfl ?_
     have hv:=HV.out
     rw [h20]at hv
     exact⟨_,rfl,HKX.out _ _ _ _ _ _,HFX.out _ _ _ _ _ _,u,.inr ⟨rfl,rfl,h20⟩,hv⟩
    ·go_wp2
     refine bodyPost_ret (v:=.agg #[.int .i64 23,.int .u64 (n:Int),.string ⟨t.toArray⟩,.slice (some ⟨d,i,none⟩) 1 c1,.int .i64 o,.slice A2 b c2]) (by simp [results,Tryz.results34,go_sem,z0,z1,z2,z3,z4,z5]) rfl ?_
     exact⟨_,rfl,HKX.out _ _ _ _ _ _,HFX.out _ _ _ _ _ _,_,.inl rfl,HX.out⟩
    ·omega
   ·have t20:(u.kind==20)=false:=by simpa using h20
    go_enter Tryz.func34,Tryz.ntmps34
    go_wp2
    refine bodyPost_ret (v:=.agg #[.int .i64 23,.int .u64 (n:Int),.string ⟨t.toArray⟩,.slice (some ⟨d,i,none⟩) 1 c1,.int .i64 o,.slice A2 b c2]) (by simp [results,Tryz.results34,go_sem]) rfl ?_
    exact⟨_,rfl,DONE.out⟩
  ·have t1:((a:Int)==1)=false:=by simp;omega
   go_enter Tryz.func34,Tryz.ntmps34
   go_wp2
   refine bodyPost_ret (v:=.agg #[.int .i64 23,.int .u64 (n:Int),.string ⟨t.toArray⟩,.slice A1 a c1,.int .i64 o,.slice A2 b c2]) (by simp [results,Tryz.results34,go_sem]) rfl ?_
   exact⟨_,rfl,DONE.out⟩
 ·have t23:(k==23)=false:=by simpa using h23
  go_enter Tryz.func34,Tryz.ntmps34
  go_wp2
  refine bodyPost_ret (v:=.agg #[.int .i64 k,.int .u64 (n:Int),.string ⟨t.toArray⟩,.slice A1 a c1,.int .i64 o,.slice A2 b c2]) (by simp [results,Tryz.results34,go_sem]) rfl ?_
  exact⟨_,rfl,DONE.out⟩
end Go.Proofs.YtfoegolfadhmjaaGreatDoor
namespace Go.Proofs.YtfoegolfadhmjaaGreatDoor
open Go.RowKit Go.WideShapes
theorem ofNumber_is(k:Int)(n:Nat)(w:World):
 Calls Tryz.prog 28 #[.int .i64 k,.int .u64 (n:Int)] w fun e w'=>e=.returned (.agg #[.int .i64 k,.int .u64 (n:Int),.string ⟨#[]⟩,.slice none 0 0,.int .i64 0,.slice none 0 0])∧New w w':=by
 go_enter Tryz.func28,Tryz.ntmps28
 go_wp2
 refine bodyPost_ret (v:=.agg #[.int .i64 k,.int .u64 (n:Int),.string ⟨#[]⟩,.slice none 0 0,.int .i64 0,.slice none 0 0]) (by simp [results,Tryz.results28,go_sem]) rfl ?_
 exact⟨rfl,(Keep.refl _ w).alloc _⟩
theorem VM.number(w:World)(k:Int)(n:Nat)(hn:n<18446744073709551616):VM w (.mk k n [] [] 0 []) (.agg #[.int .i64 k,.int .u64 (n:Int),.string ⟨#[]⟩,.slice none 0 0,.int .i64 0,.slice none 0 0]):=
 VM.mk hn LM.nil LM.nil
end Go.Proofs.YtfoegolfadhmjaaGreatDoor
namespace Go.Proofs.YtfoegolfadhmjaaGreatDoor
open Go.RowKit Go.WideShapes
theorem mem_of{w:World}{v:V}{a0 a1 a2 a3 a4 a5:Value}(h:VM w v (.agg #[a0,a1,a2,a3,a4,a5])):Mem w [v] [a0,a1,a2,a3,a4,a5]:=by
 obtain⟨cs,e,hm⟩:=h
 injection e with e
 have e':cs=[a0,a1,a2,a3,a4,a5]:=by have:=congrArg Array.toList e;simpa using this.symm
 rwa [e']at hm
theorem whole_all(c:Nat)(hc:c<18446744073709551616)(fs:List (V×V))(hm:fs.length≤1000)(w:World)(s:Value)(hs:FM w fs s)(T:World→Prop)(hT:∀W,T W→∀d i c,s=.slice (some ⟨d,i,none⟩) fs.length c→∀j (hj:j<fs.length) a0 a1 a2 a3 a4 a5,w.cell? ⟨d,i+j*12,none⟩=some a0→w.cell? ⟨d,i+j*12+1,none⟩=some a1→w.cell? ⟨d,i+j*12+2,none⟩=some a2→w.cell? ⟨d,i+j*12+3,none⟩=some a3→w.cell? ⟨d,i+j*12+4,none⟩=some a4→w.cell? ⟨d,i+j*12+5,none⟩=some a5→VM W fs[j].1 (.agg #[a0,a1,a2,a3,a4,a5])):
 ∀n,n=fs.length→Calls Tryz.prog 31 #[.agg #[.int .u64 (c:Int),s]] w fun e w'=>∃sk d,e=.returned (.agg #[.int .i64 21,.int .u64 0,.string ⟨#[]⟩,sk,.int .i64 0,.slice (some ⟨d,0,none⟩) 1 1])∧New w w'∧(∃cells,w'.ownsRow (d+2) 78 6 sk n cells∧∀W,T W→Mem W (fs.map (·.1)) cells)∧w.heap.size≤d∧w'.heap[d]? =some (.cells #[.int .i64 5,.int .u64 (c:Int),.string ⟨#[]⟩,.slice none 0 0,.int .i64 0,.slice none 0 0] 78 (0,0)):=by
 obtain⟨A,cc,rfl,-,-⟩:=hs.shape
 intro n hn
 rw [←hn]at hs hm ⊢
 have M:=Lib.hid hn
 have HS:=Lib.hid hs
 have HT:=Lib.hid hT
 have HN:=Lib.hid (fun w=>ofNumber_is 5 c w)
 clear hn hs hT
 go_enter Tryz.func31,Tryz.ntmps31
 go_wp2_with fail
 refine(HN.out _).mono ?_
 rintro e w1 ⟨rfl,k1⟩
 have hb1:=k1.blk (blk_alloc (blk_new w (.cells #[.int .u64 (c:Int),.slice A n cc] 33)) (.cells #[.int .i64 0,.int .u64 0,.string ⟨#[]⟩,.slice none 0 0,.int .i64 0,.slice none 0 0] 78)) trivial
 have hr1:=k1.blk (blk_new (w.alloc (.cells #[.int .u64 (c:Int),.slice A n cc] 33)) (.cells #[.int .i64 0,.int .u64 0,.string ⟨#[]⟩,.slice none 0 0,.int .i64 0,.slice none 0 0] 78)) trivial
 simp only [World.size_alloc]at hr1
 have kw1:=(((Keep.refl (fun _=>True) w).alloc (.cells #[.int .u64 (c:Int),.slice A n cc] 33)).alloc (.cells #[.int .i64 0,.int .u64 0,.string ⟨#[]⟩,.slice none 0 0,.int .i64 0,.slice none 0 0] 78)).trans k1
 have hsz1:w.heap.size+2≤w1.heap.size:=lt_blk hr1
 obtain⟨p,hp⟩:∃p,p=w1.heap.size+1:=⟨_,rfl⟩
 have kA:=(Keep.refl (fun _=>True) w1).alloc (.cells #[.int .i64 5,.int .u64 (c:Int),.string ⟨#[]⟩,.slice none 0 0,.int .i64 0,.slice none 0 0] 78)
 have kB:=kA.alloc (.cells #[.int .i64 21,.int .u64 0,.string ⟨#[]⟩,.slice none 0 0,.int .i64 0,.slice (some ⟨w1.heap.size,0,none⟩) 1 1] 78)
 have hb2:=kB.blk hb1 trivial
 have hr2:=kB.blk hr1 trivial
 have hd2:=blk_alloc (blk_new w1 (.cells #[.int .i64 5,.int .u64 (c:Int),.string ⟨#[]⟩,.slice none 0 0,.int .i64 0,.slice none 0 0] 78)) (.cells #[.int .i64 21,.int .u64 0,.string ⟨#[]⟩,.slice none 0 0,.int .i64 0,.slice (some ⟨w1.heap.size,0,none⟩) 1 1] 78)
 have hv2:=blk_new (w1.alloc (.cells #[.int .i64 5,.int .u64 (c:Int),.string ⟨#[]⟩,.slice none 0 0,.int .i64 0,.slice none 0 0] 78)) (.cells #[.int .i64 21,.int .u64 0,.string ⟨#[]⟩,.slice none 0 0,.int .i64 0,.slice (some ⟨w1.heap.size,0,none⟩) 1 1] 78)
 simp only [World.size_alloc]at hv2
 have q1:=(blk_cell hb2 1).trans rfl
 have q0:=(blk_cell hb1 0).trans rfl
 have HR2:=Lib.hid hr2
 have HD2:=Lib.hid hd2
 have HV2:=Lib.hid hv2
 have HKB:=Lib.hid (kw1.trans kB)
 clear hb1 hr1 hb2 hr2 hd2 hv2 kA kB
 go_wp2_with fail
 go_loopg [14] n (fun kk s14 wr=>∃(j:Nat) (sk:Value),j+kk=n∧s14=.int .i64 (j:Int)∧New w wr∧wr.heap[w.heap.size+1]? =some (.cells #[.int .i64 0,.int .u64 0,.string ⟨#[]⟩,.slice none 0 0,.int .i64 0,.slice none 0 0] 78 (0,0))∧wr.heap[w1.heap.size]? =some (.cells #[.int .i64 5,.int .u64 (c:Int),.string ⟨#[]⟩,.slice none 0 0,.int .i64 0,.slice none 0 0] 78 (0,0))∧wr.heap[w1.heap.size+1]? =some (.cells #[.int .i64 21,.int .u64 0,.string ⟨#[]⟩,sk,.int .i64 0,.slice (some ⟨w1.heap.size,0,none⟩) 1 1] 78 (0,0))∧∃cells,wr.ownsRow (w1.heap.size+2) 78 6 sk j cells∧(∀W,T W→Mem W ((fs.map (·.1)).take j) cells))
 case atStart=>exact⟨0,.slice none 0 0,by omega,rfl,HKB.out,HR2.out,HD2.out,HV2.out,[],⟨rfl,.inl ⟨rfl,rfl⟩⟩,fun _ _=>.nil⟩
 case round=>
  obtain⟨j,sk,hj,rfl,kr,hr,hd,hv,cells,hrow,hmem⟩:=hrel
  obtain⟨Ak,ck,rfl⟩:=own_shape hrow
  have HROW:=Lib.hid hrow
  have HMEM:=Lib.hid hmem
  have HD:=Lib.hid hd
  have HV:=Lib.hid hv
  rcases gk with _ | kk
  ·obtain rfl:n=j:=by omega
   have F0:=blk_free hr 0
   have z0:=(blk_cell hr 0).trans rfl
   have v0:=(blk_cell hv 0).trans rfl
   have F1:=blk_free hr 1
   have z1:=(blk_cell hr 1).trans rfl
   have v1:=(blk_cell hv 1).trans rfl
   have F2:=blk_free hr 2
   have z2:=(blk_cell hr 2).trans rfl
   have v2:=(blk_cell hv 2).trans rfl
   have F3:=blk_free hr 3
   have z3:=(blk_cell hr 3).trans rfl
   have v3:=(blk_cell hv 3).trans rfl
   have F4:=blk_free hr 4
   have z4:=(blk_cell hr 4).trans rfl
   have v4:=(blk_cell hv 4).trans rfl
   have F5:=blk_free hr 5
   have z5:=(blk_cell hr 5).trans rfl
   have v5:=(blk_cell hv 5).trans rfl
   clear hrow hd
   go_wp2
   refine bodyPost_ret (v:=.agg #[.int .i64 21,.int .u64 0,.string ⟨#[]⟩,.slice Ak n ck,.int .i64 0,.slice (some ⟨w1.heap.size,0,none⟩) 1 1]) (by simp [results,Tryz.results31,go_sem,z0,z1,z2,z3,z4,z5]) rfl ?_
   have kX:=set6_keep (Keep.refl (fun b=>b≠w.heap.size+1) wr) (p:=w.heap.size+1) (.inr (by simp)) (.int .i64 21) (.int .u64 0) (.string ⟨#[]⟩) (.slice Ak n ck) (.int .i64 0) (.slice (some ⟨w1.heap.size,0,none⟩) 1 1)
   refine⟨_,w1.heap.size,rfl,set6_keep kr (.inl (by omega)) _ _ _ _ _ _,?_,by omega,kX.blk HD.out (by omega)⟩
   refine⟨cells,own_near HROW.out (kX.mono fun b hb=>?_),?_⟩
   ·intro hb'
    omega
   ·intro W hW
    have:=HMEM.out W hW
    rwa [M.out,←List.length_map (f:=(·.1)),List.take_length]at this
  ·have hjn:j<n:=by omega
   have tj:decide (j<n)=true:=by simpa using hjn
   have hj1:j<fs.length:=by rw [←M.out];exact hjn
   obtain⟨d,i,hAe,-,-,-,hat⟩:=HS.out.at (fun h=>by rw [h]at hj1;simp at hj1)
   cases hAe
   obtain⟨a0,a1,a2,a3,a4,a5,b0,b1,b2,b3,b4,b5,hva,hvb,g0,g1,g2,g3,g4,g5,g6,g7,g8,g9,g10,g11⟩:=hat j hj1
   have hTW:=fun W hW=>HT.out W hW d i cc rfl j hj1 _ _ _ _ _ _ g0 g1 g2 g3 g4 g5
   have htk:(fs.map (·.1)).take (j+1)=(fs.map (·.1)).take j++[fs[j].1]:=by
    rw [←List.take_append_getElem (by simpa using hj1:j<(fs.map (·.1)).length)]
    simp
   obtain⟨u,hu⟩:∃u,u=fs[j].1:=⟨_,rfl⟩
   obtain⟨x,hx⟩:∃x,x=fs[j].2:=⟨_,rfl⟩
   rw [←hu]at hva htk hTW
   rw [←hx]at hvb
   clear hu hx hat
   obtain⟨cu,hcu,hmu⟩:=hva
   have hva:VM w u (.agg #[a0,a1,a2,a3,a4,a5]):=⟨cu,hcu,hmu⟩
   obtain⟨A6,c6,o6,B6,e6,heq,-,-⟩:=hva.parts'
   simp only [Value.agg.injEq,Array.mk.injEq,List.cons.injEq,and_true]at heq
   obtain⟨rfl,rfl,rfl,rfl,rfl,rfl⟩:=heq
   obtain⟨A7,c7,o7,B7,e7,heq,-,-⟩:=hvb.parts'
   simp only [Value.agg.injEq,Array.mk.injEq,List.cons.injEq,and_true]at heq
   obtain⟨rfl,rfl,rfl,rfl,rfl,rfl⟩:=heq
   injection hcu with hcu
   have hcu2:cu=[.int .i64 u.kind,.int .u64 (u.num:Int),.string ⟨u.text.toArray⟩,.slice A6 u.kids.length c6,.int .i64 o6,.slice B6 u.desc.length e6]:=by have:=congrArg Array.toList hcu;simpa using this.symm
   subst hcu2
   have HTK:=Lib.hid htk
   have HMU:=Lib.hid hTW
   replace g0:=kr.cell g0 trivial
   replace g1:=kr.cell g1 trivial
   replace g2:=kr.cell g2 trivial
   replace g3:=kr.cell g3 trivial
   replace g4:=kr.cell g4 trivial
   replace g5:=kr.cell g5 trivial
   replace g6:=kr.cell g6 trivial
   replace g7:=kr.cell g7 trivial
   replace g8:=kr.cell g8 trivial
   replace g9:=kr.cell g9 trivial
   replace g10:=kr.cell g10 trivial
   replace g11:=kr.cell g11 trivial
   have kA:=(Keep.refl (fun _=>True) wr).alloc (.cells #[.int .i64 u.kind,.int .u64 (u.num:Int),.string ⟨u.text.toArray⟩,.slice A6 u.kids.length c6,.int .i64 o6,.slice B6 u.desc.length e6,.int .i64 x.kind,.int .u64 (x.num:Int),.string ⟨x.text.toArray⟩,.slice A7 x.kids.length c7,.int .i64 o7,.slice B7 x.desc.length e7] 81)
   have v3:=cell_alloc ((blk_cell hv 3).trans rfl) (.cells #[.int .i64 u.kind,.int .u64 (u.num:Int),.string ⟨u.text.toArray⟩,.slice A6 u.kids.length c6,.int .i64 o6,.slice B6 u.desc.length e6,.int .i64 x.kind,.int .u64 (x.num:Int),.string ⟨x.text.toArray⟩,.slice A7 x.kids.length c7,.int .i64 o7,.slice B7 x.desc.length e7] 81)
   have kB:=kA.alloc (.cells #[.int .i64 u.kind,.int .u64 (u.num:Int),.string ⟨u.text.toArray⟩,.slice A6 u.kids.length c6,.int .i64 o6,.slice B6 u.desc.length e6] 78)
   obtain⟨g,cap,w5,hap,hown5,k5⟩:=append_val ((wr.alloc (.cells #[.int .i64 u.kind,.int .u64 (u.num:Int),.string ⟨u.text.toArray⟩,.slice A6 u.kids.length c6,.int .i64 o6,.slice B6 u.desc.length e6,.int .i64 x.kind,.int .u64 (x.num:Int),.string ⟨x.text.toArray⟩,.slice A7 x.kids.length c7,.int .i64 o7,.slice B7 x.desc.length e7] 81)).alloc (.cells #[.int .i64 u.kind,.int .u64 (u.num:Int),.string ⟨u.text.toArray⟩,.slice A6 u.kids.length c6,.int .i64 o6,.slice B6 u.desc.length e6] 78)) (w1.heap.size+2) (.slice Ak j ck) j _ (own_keep HROW.out kB) (wr.heap.size+1) 1 [.int .i64 u.kind,.int .u64 (u.num:Int),.string ⟨u.text.toArray⟩,.slice A6 u.kids.length c6,.int .i64 o6,.slice B6 u.desc.length e6] rfl (by have:=blk_new (wr.alloc (.cells #[.int .i64 u.kind,.int .u64 (u.num:Int),.string ⟨u.text.toArray⟩,.slice A6 u.kids.length c6,.int .i64 o6,.slice B6 u.desc.length e6,.int .i64 x.kind,.int .u64 (x.num:Int),.string ⟨x.text.toArray⟩,.slice A7 x.kids.length c7,.int .i64 o7,.slice B7 x.desc.length e7] 81)) (.cells #[.int .i64 u.kind,.int .u64 (u.num:Int),.string ⟨u.text.toArray⟩,.slice A6 u.kids.length c6,.int .i64 o6,.slice B6 u.desc.length e6] 78);simpa only [World.size_alloc]using this) (by simp [Value.oneCell']) (by omega) (by have:=lt_blk HV.out;have:=kB.size;omega)
   have far5:=own_far HROW.out
   have hsv:=lt_blk HV.out
   have hv5:=k5.blk (kB.blk HV.out trivial) (far5 _ (by omega))
   have hd5:=k5.blk (kB.blk HD.out trivial) (far5 _ (by omega))
   have hr5:=k5.blk (kB.blk hr trivial) (far5 _ (by omega))
   have f5:=blk_free hv5 3
   have y5:=(blk_cell hv5 3).trans rfl
   have HAP:=Lib.hid hap
   have K5:=Lib.hid ((kr.trans kB).then k5 (fun i hi _=>far5 i (by omega)))
   have HO5:=Lib.hid hown5
   have HV5:=Lib.hid hv5
   have HD5:=Lib.hid hd5
   have HR5:=Lib.hid hr5
   clear hTW hap k5 hown5 hv5 hd5 hr5 far5 hva hvb hcu hmu htk hrow hmem hr hd hv kA kB
   go_wp2_with (at_builtin;refine wpList_append_eq rfl _ _ 43 rfl _ _ _ _ rfl rfl HAP.out ?_)
   go_roundg kk
   case measure=>omega
   case rel=>
    have kS:=(Keep.refl (fun b=>b≠w1.heap.size+1) w5).setCell (p:=⟨w1.heap.size+1,3,none⟩) (.inr (by simp)) (.slice (some ⟨g,0,none⟩) (j+1) cap)
    refine⟨j+1,.slice (some ⟨g,0,none⟩) (j+1) cap,by omega,congrArg _ (by omega),K5.out.setCell (p:=⟨w1.heap.size+1,3,none⟩) (.inl (by show w.heap.size≤w1.heap.size+1;omega)) _,kS.blk HR5.out (by omega),kS.blk HD5.out (by omega),by simpa using blk_set HV5.out 3 (.slice (some ⟨g,0,none⟩) (j+1) cap),_,own_near HO5.out (kS.mono fun b _ hb=>by omega),?_⟩
    rw [HTK.out]
    intro W hW
    exact(HMEM.out W hW).append (mem_of (HMU.out W hW))
theorem whole_is(c:Nat)(hc:c<18446744073709551616)(fs:List (V×V))(hm:fs.length≤1000)(w:World)(s:Value)(hs:FM w fs s):
 ∀n,n=fs.length→Calls Tryz.prog 31 #[.agg #[.int .u64 (c:Int),s]] w fun e w'=>∃sk d,e=.returned (.agg #[.int .i64 21,.int .u64 0,.string ⟨#[]⟩,sk,.int .i64 0,.slice (some ⟨d,0,none⟩) 1 1])∧New w w'∧(∃cells,w'.ownsRow (d+2) 78 6 sk n cells∧Mem w (fs.map (·.1)) cells)∧w.heap.size≤d∧w'.heap[d]? =some (.cells #[.int .i64 5,.int .u64 (c:Int),.string ⟨#[]⟩,.slice none 0 0,.int .i64 0,.slice none 0 0] 78 (0,0)):=by
 intro n hn
 refine(whole_all c hc fs hm w s hs (fun W=>W=w) (fun W hW d i c' he j hj a0 a1 a2 a3 a4 a5 g0 g1 g2 g3 g4 g5=>?_) n hn).mono ?_
 ·subst hW
  subst he
  obtain⟨d',i',hA,-,-,-,hat⟩:=hs.at (fun h=>by rw [h]at hj;simp at hj)
  cases hA
  obtain⟨x0,x1,x2,x3,x4,x5,b0,b1,b2,b3,b4,b5,hva,-,q0,q1,q2,q3,q4,q5,-⟩:=hat j hj
  rw [g0]at q0;rw [g1]at q1;rw [g2]at q2;rw [g3]at q3;rw [g4]at q4;rw [g5]at q5
  cases q0;cases q1;cases q2;cases q3;cases q4;cases q5
  exact hva
 ·rintro e w' ⟨sk,d,he,k,⟨cells,h1,h2⟩,h3⟩
  exact⟨sk,d,he,k,⟨cells,h1,h2 w rfl⟩,h3⟩
end Go.Proofs.YtfoegolfadhmjaaGreatDoor
namespace Go.Proofs.YtfoegolfadhmjaaGreatDoor
open Go.RowKit Go.WideShapes
def nul:V:=.mk 0 0 [] [] 0 []
def txF(k:Int)(t:List UInt8):V:=if t=[]then nul else .mk k 0 t [] 0 []
def mpF(l:List V):V:=if l=[]then nul else .mk 22 0 [] l 0 []
def fauF(t0 t1:List UInt8)(l:List V):List (V×V):=[(.mk 20 0 t0 [] 0 [],nul),(txF 19 t1,nul),(mpF l,nul)]
def Put1(f:V×V)(u:V):Prop:=Inside f.1 u∨u=nul∧f.1.kind≠0∧f.2.kind≠0∧sameV f.1 f.2=true
structure PutK(fs:List (V×V))(ks:List V):Prop where
 le:ks.length≤fs.length
 each:∀j (_:j<ks.length) (_:j<fs.length),Put1 fs[j] ks[j]
 rest:∀j (_:j<fs.length),ks.length≤j→∃u,Put1 fs[j] u∧u.kind=0
theorem Put1.same{v u:V}(h:Put1 (v,nul) u)(hk:v.kind≠23):u=v:=by
 rcases h with(h | h) | ⟨_,_,h,_⟩
 ·exact h
 ·exact absurd h.1 hk
 ·exact absurd rfl h
theorem Leaf.desc{v:V}{b:List UInt8}(h:Leaf v b):v.desc=[]:=by cases h<;>rfl
theorem EncV.desc{l:List V}{b:List UInt8}(h:EncV l b):∀v∈l,v.desc=[]:=by
 induction h with
 | nil=>intro v hv;simp at hv
 | leaf h hs ih=>exact fun v hv=>(List.mem_cons.1 hv).elim (fun e=>e▸h.desc) (ih v)
 | list0 hs ih=>exact fun v hv=>(List.mem_cons.1 hv).elim (fun e=>e▸rfl) (ih v)
 | list hk hh hm hs _ ih=>exact fun v hv=>(List.mem_cons.1 hv).elim (fun e=>e▸rfl) (ih v)
 | map hk hh hm ok hs _ ih=>exact fun v hv=>(List.mem_cons.1 hv).elim (fun e=>e▸rfl) (ih v)
 | arr hk hh hm hne hs ih=>exact fun v hv=>(List.mem_cons.1 hv).elim (fun e=>e▸rfl) (ih v)
theorem EncW.len{l:List V}{b:List UInt8}(h:EncW l b):l.length≤b.length:=by
 induction h with
 | nil=>simp
 | plain h hs ih=>have:=h.len;simp only [List.length_cons,List.length_nil,List.length_append]at *;omega
 | comp0 hd hs ih=>simp;omega
 | comp hd hk hh hm hs _ ih=>simp;omega
theorem EncW.comp_inv{o od:Int}{c:Nat}{kids:List V}{b:List UInt8}(h:EncW [.mk 21 0 [] kids o [.mk 5 c [] [] od []]] b):
 ∃d lb body,b=0::(d++(lb++body))∧Leaf (.mk 5 c [] [] od []) d∧LHd kids.length body lb∧EncW kids body:=by
 obtain⟨l,hl⟩:∃l,l=[V.mk 21 0 [] kids o [.mk 5 c [] [] od []]]:=⟨_,rfl⟩
 rw [←hl]at h
 cases h with
 | nil=>simp at hl
 | plain h hs=>
   simp only [List.cons.injEq]at hl
   obtain⟨rfl,rfl⟩:=hl
   have:=h.desc _ (List.mem_cons_self ..)
   simp [V.desc]at this
 | comp0 hd hs=>
   simp only [List.cons.injEq,V.mk.injEq,true_and,and_true]at hl
   obtain⟨⟨rfl,rfl,rfl,rfl⟩,rfl⟩:=hl
   cases hs
   exact⟨_,[69],[],by simp,hd,.inl ⟨rfl,rfl,rfl⟩,.nil⟩
 | comp hd hk hh hm hs=>
   simp only [List.cons.injEq,V.mk.injEq,true_and,and_true]at hl
   obtain⟨⟨rfl,rfl,rfl,rfl⟩,rfl⟩:=hl
   cases hs
   exact⟨_,_,_,by simp,hd,.inr hh,hk⟩
theorem EncW.snoc_nil{l:List V}{b:List UInt8}(h:EncW l (b++[])):EncW l b:=by rwa [List.append_nil]at h
theorem EncW.split{l:List V}{b:List UInt8}(h:EncW l b):∃bs:List (List UInt8),bs.length=l.length∧bs.flatten=b∧∀j (h1:j<l.length) (h2:j<bs.length),EncW [l[j]] bs[j]:=by
 have step:∀{v:V} {vs:List V} {b bs:List UInt8},EncW [v] b→(∃cs:List (List UInt8),cs.length=vs.length∧cs.flatten=bs∧∀j (h1:j<vs.length) (h2:j<cs.length),EncW [vs[j]] cs[j])→
  ∃cs:List (List UInt8),cs.length=(v::vs).length∧cs.flatten=b++bs∧∀j (h1:j<(v::vs).length) (h2:j<cs.length),EncW [(v::vs)[j]] cs[j]:=by
  rintro v vs b bs h ⟨cs,e1,e2,e3⟩
  refine⟨b::cs,by simp [e1],by simp [e2],fun j h1 h2=>?_⟩
  cases j with
  | zero=>exact h
  | succ j=>exact e3 j (by simpa using h1) (by simpa using h2)
 induction h with
 | nil=>exact⟨[],rfl,rfl,fun j h1=>absurd h1 (by simp)⟩
 | plain h hs ih=>exact step (.snoc_nil (.plain h .nil)) ih
 | comp0 hd hs ih=>exact step (.snoc_nil (.comp0 hd .nil)) ih
 | comp hd hk hh hm hs _ ih=>exact step (.snoc_nil (.comp hd hk hh hm .nil)) ih
theorem EncW.v1{v:V}{b:List UInt8}(h:EncW [v] b)(hd:v.desc=[]):EncV [v] b:=h.toV fun u hu=>by rw [List.mem_singleton.1 hu];exact hd
theorem EncV.leaf1{v:V}{b:List UInt8}(h:EncV [v] b)(hk:v.kind<21):Leaf v b:=by
 obtain⟨l,hl⟩:∃l,l=[v]:=⟨_,rfl⟩
 rw [←hl]at h
 cases h with
 | nil=>simp at hl
 | leaf h hs=>
   simp only [List.cons.injEq]at hl
   obtain⟨rfl,rfl⟩:=hl
   cases hs
   rw [List.append_nil]
   exact h
 | list0 hs=>simp only [List.cons.injEq]at hl;obtain⟨rfl,_⟩:=hl;exact absurd hk (by simp [V.kind])
 | list hk' hh hm hs=>simp only [List.cons.injEq]at hl;obtain⟨rfl,_⟩:=hl;exact absurd hk (by simp [V.kind])
 | map hk' hh hm ok hs=>simp only [List.cons.injEq]at hl;obtain⟨rfl,_⟩:=hl;exact absurd hk (by simp [V.kind])
 | arr hk' hh hm hne hs=>simp only [List.cons.injEq]at hl;obtain⟨rfl,_⟩:=hl;exact absurd hk (by simp [V.kind])
theorem EncV.map1{ps:List (V×V)}{o:Int}{b:List UInt8}(h:EncV [.mk 22 0 [] (flat2 ps) o []] b):∃h body,b=h++body∧EncV (flat2 ps) body∧Hd 193 209 (2*ps.length) body h∧2*ps.length≤1000∧MapOk ps:=by
 obtain⟨l,hl⟩:∃l,l=[V.mk 22 0 [] (flat2 ps) o []]:=⟨_,rfl⟩
 rw [←hl]at h
 cases h with
 | nil=>simp at hl
 | leaf h hs=>simp only [List.cons.injEq]at hl;obtain⟨rfl,_⟩:=hl;cases h
 | list0 hs=>simp at hl
 | list hk' hh hm hs=>simp at hl
 | arr hk' hh hm hne hs=>simp at hl
 | map hk hh hm ok hs=>
   simp only [List.cons.injEq,V.mk.injEq,true_and,and_true]at hl
   obtain⟨⟨e,rfl⟩,rfl⟩:=hl
   obtain rfl:=flat2_inj e
   cases hs
   exact⟨_,_,by simp,hk,hh,hm,ok⟩
theorem nul_enc{b:List UInt8}(h:EncV [nul] b):b=[64]:=by
 have:=h.leaf1 (by show(0:Int)<21;omega)
 unfold nul at this
 cases this
 rfl
theorem text_head{v:V}{b:List UInt8}(h:Leaf v b)(hk:TextK v.kind):∃b0 b',b=b0::b'∧b0≠64:=by
 cases h
 all_goals first
  | (exfalso;simp [TextK,V.kind]at hk;done)
  | exact⟨_,_,rfl,by decide⟩
theorem text1{k o:Int}{t b:List UInt8}(hk:TextK k)(h:EncV [.mk k 0 t [] o []] b):ReadsT t b∧∃b0 b',b=b0::b'∧b0≠64:=by
 have hl:=h.leaf1 (by show k<21;unfold TextK at hk;omega)
 exact⟨(text_reads hl hk).1,text_head hl hk⟩
theorem fieldT_of{k:Int}{t b:List UInt8}(hk:TextK k)(h:EncV [txF k t] b):FieldT t b:=by
 unfold txF at h
 split at h
 ·rename_i e
  exact .inl ⟨nul_enc h,e⟩
 ·exact .inr (text1 hk h)
theorem texts_once{ps:List (V×V)}(ok:MapOk ps)(hk:∀q∈ps,TextK q.1.kind)(hn:∀q∈ps,q.1.num=0):(ps.map fun q=>q.1.text).Nodup:=by
 have h1:(ps.map fun q=>rk q.1)=(ps.map fun q=>q.1.text).map fun t=>((19:Int),0,t):=by
  rw [List.map_map]
  refine List.map_congr_left fun q hq=>?_
  have:=hk q hq
  simp only [rk,hn q hq,Function.comp]
  unfold TextK at this
  rcases this with h | h
  ·rw [if_neg (by omega),h]
  ·rw [if_pos h]
 have h2:=ok.once
 rw [h1]at h2
 exact(List.pairwise_map.1 h2).imp fun h e=>h (by rw [e])
theorem fieldM_of{ps:List (V×V)}{b:List UInt8}(hk:∀q∈ps,TextK q.1.kind)(hn:∀q∈ps,q.1.num=0)(h:EncV [mpF (flat2 ps)] b):FieldM ps b:=by
 unfold mpF at h
 split at h
 ·rename_i e
  refine .inl ⟨nul_enc h,?_⟩
  rcases ps with _ | ⟨q,ps⟩
  ·rfl
  ·simp [flat2]at e
 ·obtain⟨hd,body,rfl,h1,h2,h3,h4⟩:=h.map1
  exact .inr ⟨hd,body,rfl,h2,texts_of h1 hk,texts_once h4 hk hn,h3,by have:=h1.len;rwa [flat2_len]at this⟩
def MapA(K:Int→Prop)(l:List V):Prop:=∃ps,l=flat2 ps∧AbleL (flat2 ps)∧2*ps.length≤1000∧MapOk ps∧NSA (flat2 ps)∧∀q∈ps,K q.1.kind
theorem MapA.nil(K:Int→Prop):MapA K []:=⟨[],rfl,.nil,by simp,⟨by simp,by simp⟩,.nil,by simp⟩
theorem MapA.of{K:Int→Prop}{ps:List (V×V)}(h:AbleL [.mk 22 0 [] (flat2 ps) 0 []])(hs:NSA [.mk 22 0 [] (flat2 ps) 0 []])(hk:∀q∈ps,K q.1.kind):MapA K (flat2 ps):=by
 obtain⟨h1,h2,h3,_⟩:=h.map_inv
 exact⟨ps,rfl,h1,h2,h3,hs.kids.1,hk⟩
theorem keys_plain{ps:List (V×V)}(hA:AbleL (flat2 ps))(hk:∀q∈ps,TextK q.1.kind):∀q∈ps,∃o,q.1=.mk q.1.kind 0 q.1.text [] o []:=by
 intro q hq
 have hL:=(AbleL.mem.1 hA q.1 (flat2_mem.2 ⟨q,hq,.inl rfl⟩)).leaf_of (hk q hq).key
 have ht:=hk q hq
 have e:=hL.plain
 refine⟨q.1.of,?_⟩
 have h0:q.1.num=0:=by
  obtain⟨a,b⟩:=q
  simp only at hL ht ⊢
  cases hL<;>first | rfl | (exfalso;simp [TextK,V.kind]at ht;done)
 rw [h0]at e
 exact e
theorem MapA.info{l:List V}(h:MapA (fun k=>k=19) l):∃ps,l=flat2 ps∧InfoA ps∧(∀q∈ps,TextK q.1.kind)∧(∀q∈ps,q.1.num=0)∧AbleL (flat2 ps)∧2*ps.length≤1000∧MapOk ps:=by
 obtain⟨ps,rfl,hA,h2,ok,hs,hk⟩:=h
 have hT:∀q∈ps,TextK q.1.kind:=fun q hq=>.inl (hk q hq)
 have hp:=keys_plain hA hT
 have hn:∀q∈ps,q.1.num=0:=fun q hq=>by obtain⟨o,e⟩:=hp q hq;rw [e];rfl
 refine⟨ps,rfl,⟨by omega,fun q hq=>⟨AbleL.mem.1 hA q.2 (flat2_mem.2 ⟨q,hq,.inr rfl⟩),NSA.mem.1 hs q.2 (flat2_mem.2 ⟨q,hq,.inr rfl⟩)⟩,fun q hq=>?_,texts_once ok hT hn⟩,hT,hn,hA,h2,ok⟩
 obtain⟨o,e⟩:=hp q hq
 have:=hk q hq
 exact⟨19,o,by rw [this]at e;exact e,.inl rfl⟩
theorem fault_law{t0 t1:List UInt8}{ps:List (V×V)}{ks:List V}{o od:Int}{b:List UInt8}(hk:PutK (fauF t0 t1 (flat2 ps)) ks)(he:EncW [.mk 21 0 [] ks o [.mk 5 29 [] [] od []]] b)(hT:∀q∈ps,TextK q.1.kind)(hn:∀q∈ps,q.1.num=0):
 ∃(n:Nat) (d lb:List UInt8) (bs:List (List UInt8)),b=0::(d++(lb++bs.flatten))∧Leaf (.mk 5 29 [] [] od []) d∧LHd n bs.flatten lb∧bs.length=n∧1≤n∧n≤3∧n≤bs.flatten.length∧
  (∀x,bs[0]? =some x→ReadsT t0 x∧∃b0 b',x=b0::b'∧b0≠64)∧(∀x,bs[1]? =some x→FieldT t1 x)∧(∀x,bs[2]? =some x→FieldM ps x)∧(n<2→t1=[])∧(n<3→ps=[]):=by
 obtain⟨d,lb,body,rfl,hd,hh,hb⟩:=he.comp_inv
 have hlen:=hb.len
 obtain⟨bs,e1,rfl,e3⟩:=hb.split
 have k1:(txF 19 t1).kind≠23∧(txF 19 t1).desc=[]:=by unfold txF;split<;>simp [nul,V.kind,V.desc]
 have k2:(mpF (flat2 ps)).kind≠23∧(mpF (flat2 ps)).desc=[]:=by unfold mpF;split<;>simp [nul,V.kind,V.desc]
 have kz1:(txF 19 t1).kind=0→t1=[]:=by unfold txF;split<;>simp [V.kind, *]
 have kz2:(mpF (flat2 ps)).kind=0→ps=[]:=by
  unfold mpF
  split
  ·rename_i e
   intro _
   rcases ps with _ | ⟨q,ps⟩
   ·rfl
   ·simp [flat2]at e
  ·simp [V.kind]
 have hle:ks.length≤3:=hk.le
 have get:∀(j:Nat) (v:V),(fauF t0 t1 (flat2 ps))[j]? =some (v,nul)→v.kind≠23→v.desc=[]→∀x:List UInt8,bs[j]? =some x→EncV [v] x:=by
  intro j v hv h23 hd x hx
  obtain⟨hj,rfl⟩:=List.getElem?_eq_some_iff.1 hx
  obtain⟨hj2,hv⟩:=List.getElem?_eq_some_iff.1 hv
  have hjk:j<ks.length:=by omega
  have h1:=hk.each j hjk hj2
  rw [hv]at h1
  have h2:=e3 j hjk hj
  rw [h1.same h23]at h2
  exact h2.v1 hd
 have gone:∀(j:Nat) (v:V),(fauF t0 t1 (flat2 ps))[j]? =some (v,nul)→v.kind≠23→ks.length≤j→v.kind=0:=by
  intro j v hv h23 hj
  obtain⟨hj2,hv⟩:=List.getElem?_eq_some_iff.1 hv
  obtain⟨u,hu,h0⟩:=hk.rest j hj2 hj
  rw [hv]at hu
  rw [hu.same h23]at h0
  exact h0
 refine⟨ks.length,d,lb,bs,rfl,hd,hh,e1,?_,hle,hlen,fun x hx=>text1 (.inr rfl) (get 0 _ rfl (by simp [V.kind]) rfl x hx),fun x hx=>fieldT_of (.inl rfl) (get 1 _ rfl k1.1 k1.2 x hx),fun x hx=>fieldM_of hT hn (get 2 _ rfl k2.1 k2.2 x hx),fun h=>kz1 (gone 1 _ rfl k1.1 (by omega)),fun h=>kz2 (gone 2 _ rfl k2.1 (by omega))⟩
 rcases Nat.eq_zero_or_pos ks.length with h | h
 ·have:=gone 0 _ rfl (by simp [V.kind]) (by omega)
  simp [V.kind]at this
 ·exact h
end Go.Proofs.YtfoegolfadhmjaaGreatDoor
namespace Go.Proofs.YtfoegolfadhmjaaGreatDoor
open Go.RowKit Go.WideShapes
theorem own_set1{w:World}{base n g cap q:Nat}{xs:List Value}(h:w.ownsRow base 78 6 (.slice (some ⟨g,0,none⟩) n cap) n xs)(hq:q<xs.length)(b:Value):(w.setCell ⟨g,q,none⟩ b).ownsRow base 78 6 (.slice (some ⟨g,0,none⟩) n cap) n (xs.set q b):=by
 obtain⟨h1,h2⟩:=h
 refine⟨by simpa using h1,.inr ?_⟩
 rcases h2 with⟨e,_⟩ | ⟨g',cap',cur,hv,hg,hb,hn,hc,hs,ht⟩
 ·cases e
 ·cases hv
  refine⟨g,cap,cur.setIfInBounds q b,rfl,hg,blk_set hb q b,hn,hc,by simpa using hs,?_⟩
  rw [Array.toList_setIfInBounds,←ht,List.take_set]
theorem own_at{w:World}{base n g cap:Nat}{xs:List Value}(h:w.ownsRow base 78 6 (.slice (some ⟨g,0,none⟩) n cap) n xs)(q:Nat){u:Value}(hq:xs[q]? =some u):w.cell? ⟨g,q,none⟩=some u∧w.frozen? ⟨g,q,none⟩=false:=by
 obtain⟨h1,h2⟩:=h
 rcases h2 with⟨e,_⟩ | ⟨g',cap',cur,hv,hg,hb,hn,hc,hs,ht⟩
 ·cases e
 ·cases hv
  refine⟨?_,blk_free hb q⟩
  have hlt:q<n*6:=by rw [←h1];exact(List.getElem?_eq_some_iff.1 hq).1
  rw [←ht,List.getElem?_take_of_lt hlt,Array.getElem?_toList]at hq
  rw [blk_cell hb]
  exact hq
theorem own_cap{w:World}{base n g cap:Nat}{xs:List Value}(h:w.ownsRow base 78 6 (.slice (some ⟨g,0,none⟩) n cap) n xs):n≤cap∧cap≤maxLen:=by
 rcases h.2 with⟨e,_⟩ | ⟨g',cap',cur,hv,hg,hb,hn,hc,_⟩
 ·cases e
 ·cases hv;exact⟨hn,hc⟩
theorem own_set6{w:World}{base n g cap j:Nat}{cd cr:List Value}{a0 a1 a2 a3 a4 a5:Value}(h:w.ownsRow base 78 6 (.slice (some ⟨g,0,none⟩) n cap) n (cd++a0::a1::a2::a3::a4::a5::cr))(hj:cd.length=j*6)(b0 b1 b2 b3 b4 b5:Value):
 ((((((w.setCell ⟨g,j*6,none⟩ b0).setCell ⟨g,j*6+1,none⟩ b1).setCell ⟨g,j*6+2,none⟩ b2).setCell ⟨g,j*6+3,none⟩ b3).setCell ⟨g,j*6+4,none⟩ b4).setCell ⟨g,j*6+5,none⟩ b5).ownsRow base 78 6 (.slice (some ⟨g,0,none⟩) n cap) n (cd++b0::b1::b2::b3::b4::b5::cr):=by
 have s0:=own_set1 h (q:=j*6) (by simp;omega) b0
 have s1:=own_set1 s0 (q:=j*6+1) (by simp;omega) b1
 have s2:=own_set1 s1 (q:=j*6+2) (by simp;omega) b2
 have s3:=own_set1 s2 (q:=j*6+3) (by simp;omega) b3
 have s4:=own_set1 s3 (q:=j*6+4) (by simp;omega) b4
 have s5:=own_set1 s4 (q:=j*6+5) (by simp;omega) b5
 have e:∀k b,(cd++a0::a1::a2::a3::a4::a5::cr).set (j*6+k) b=cd++(a0::a1::a2::a3::a4::a5::cr).set k b:=fun k b=>by
  rw [List.set_append_right _ _ (by omega),hj,Nat.add_sub_cancel_left]
 have e':∀(l:List Value) k b,(cd++l).set (j*6+k) b=cd++l.set k b:=fun l k b=>by
  rw [List.set_append_right _ _ (by omega),hj,Nat.add_sub_cancel_left]
 have e0:∀(l:List Value) b,(cd++l).set (j*6) b=cd++l.set 0 b:=fun l b=>e' l 0 b
 simpa only [e0,e',List.set_cons_zero,List.set_cons_succ]using s5
theorem own_six{w:World}{base n g cap j:Nat}{cd cr:List Value}{a0 a1 a2 a3 a4 a5:Value}(h:w.ownsRow base 78 6 (.slice (some ⟨g,0,none⟩) n cap) n (cd++a0::a1::a2::a3::a4::a5::cr))(hj:cd.length=j*6):
 (w.cell? ⟨g,j*6,none⟩=some a0∧w.cell? ⟨g,j*6+1,none⟩=some a1∧w.cell? ⟨g,j*6+2,none⟩=some a2∧w.cell? ⟨g,j*6+3,none⟩=some a3∧w.cell? ⟨g,j*6+4,none⟩=some a4∧w.cell? ⟨g,j*6+5,none⟩=some a5)∧
 (w.frozen? ⟨g,j*6,none⟩=false∧w.frozen? ⟨g,j*6+1,none⟩=false∧w.frozen? ⟨g,j*6+2,none⟩=false∧w.frozen? ⟨g,j*6+3,none⟩=false∧w.frozen? ⟨g,j*6+4,none⟩=false∧w.frozen? ⟨g,j*6+5,none⟩=false):=by
 have e:∀k,(cd++a0::a1::a2::a3::a4::a5::cr)[j*6+k]? =(a0::a1::a2::a3::a4::a5::cr)[k]? :=fun k=>by
  rw [List.getElem?_append_right (by omega),hj,Nat.add_sub_cancel_left]
 have g0:=own_at h (j*6) (e 0)
 have g1:=own_at h (j*6+1) (e 1)
 have g2:=own_at h (j*6+2) (e 2)
 have g3:=own_at h (j*6+3) (e 3)
 have g4:=own_at h (j*6+4) (e 4)
 have g5:=own_at h (j*6+5) (e 5)
 exact⟨⟨g0.1,g1.1,g2.1,g3.1,g4.1,g5.1⟩,g0.2,g1.2,g2.2,g3.2,g4.2,g5.2⟩
theorem Mem.head6{w:World}{v:V}{l:List V}{cells:List Value}(h:Mem w (v::l) cells):∃a0 a1 a2 a3 a4 a5 cr,cells=a0::a1::a2::a3::a4::a5::cr∧Mem w [v] [a0,a1,a2,a3,a4,a5]∧Mem w l cr:=by
 cases h with
 | cons hn hk hkm hd hdm hs=>exact⟨_,_,_,_,_,_,_,rfl,.cons hn hk hkm hd hdm .nil,hs⟩
def PutD(fs:List (V×V))(done:List V):Prop:=∀i (h1:i<done.length) (h2:i<fs.length),Put1 fs[i] done[i]
def Put0(f:V×V)(x:V):Prop:=x=f.1∨x=nul∧f.1.kind≠0∧f.2.kind≠0∧sameV f.1 f.2=true
theorem Put0.within{f:V×V}{x u:V}(h:Put0 f x)(hi:Inside x u):Put1 f u:=by
 rcases h with rfl | ⟨rfl,h⟩
 ·exact .inl hi
 ·rcases hi with rfl | ⟨h23,_⟩
  ·exact .inr ⟨rfl,h⟩
  ·exact absurd h23 (by simp [nul,V.kind])
theorem PutD.step{fs:List (V×V)}{done:List V}(h:PutD fs done)(hj:done.length<fs.length){u:V}(hu:Put1 fs[done.length] u):PutD fs (done++[u]):=by
 intro i h1 h2
 rcases Nat.lt_or_ge i done.length with hlt | hge
 ·rw [List.getElem_append_left hlt];exact h i hlt h2
 ·have:i=done.length:=by simp at h1;omega
  subst this
  rw [List.getElem_append_right (Nat.le_refl _)]
  simpa using hu
def PutJ(W:World)(f p d g cap n m c:Nat)(short:Bool)(L:List Value)(wr:World):Prop:=
 Keep (fun b=>b≠f) W wr∧FormsAt wr f short∧wr.heap[p]? =some (.cells #[.int .i64 21,.int .u64 0,.string ⟨#[]⟩,.slice (some ⟨g,0,none⟩) m cap,.int .i64 0,.slice (some ⟨d,0,none⟩) 1 1] 78 (0,0))∧wr.heap[d]? =some (.cells #[.int .i64 5,.int .u64 (c:Int),.string ⟨#[]⟩,.slice none 0 0,.int .i64 0,.slice none 0 0] 78 (0,0))∧wr.ownsRow (d+2) 78 6 (.slice (some ⟨g,0,none⟩) n cap) n L
theorem PutJ.step{W:World}{f p d g cap n m c:Nat}{short:Bool}{L:List Value}{wr w':World}(h:PutJ W f p d g cap n m c short L wr)(k:Keep (fun b=>b≠f) wr w')(hf:FormsAt w' f short)(h1:f<d)(h2:d<p):PutJ W f p d g cap n m c short L w':=by
 obtain⟨q1,q2,q3,q4,q5⟩:=h
 exact⟨q1.trans k,hf,k.blk q3 (show p≠f by omega),k.blk q4 (show d≠f by omega),own_near q5 (k.mono fun b _ hb=>by show b≠f;omega)⟩
theorem PutJ.new{W:World}{f p d g cap n m c:Nat}{short:Bool}{L:List Value}{wr w':World}(h:PutJ W f p d g cap n m c short L wr)(k:New wr w')(h1:f<d)(h2:d<p):PutJ W f p d g cap n m c short L w':=h.step (k.keep _) (h.2.1.new k) h1 h2
theorem PutJ.set6{W:World}{f p d g cap n m c j:Nat}{short:Bool}{cd cr:List Value}{a0 a1 a2 a3 a4 a5:Value}{wr:World}(h:PutJ W f p d g cap n m c short (cd++a0::a1::a2::a3::a4::a5::cr) wr)(hj:cd.length=j*6)(hW:W.heap.size≤g)(h1:f<d)(h2:d<g)(h3:g<p)(b0 b1 b2 b3 b4 b5:Value):
 PutJ W f p d g cap n m c short (cd++b0::b1::b2::b3::b4::b5::cr) ((((((wr.setCell ⟨g,j*6,none⟩ b0).setCell ⟨g,j*6+1,none⟩ b1).setCell ⟨g,j*6+2,none⟩ b2).setCell ⟨g,j*6+3,none⟩ b3).setCell ⟨g,j*6+4,none⟩ b4).setCell ⟨g,j*6+5,none⟩ b5):=by
 obtain⟨q1,⟨st,q2⟩,q3,q4,q5⟩:=h
 have ks:∀{ok:Nat→Prop} {W0 w2:World},Keep ok W0 w2→(W0.heap.size≤g∨¬ok g)→Keep ok W0 ((((((w2.setCell ⟨g,j*6,none⟩ b0).setCell ⟨g,j*6+1,none⟩ b1).setCell ⟨g,j*6+2,none⟩ b2).setCell ⟨g,j*6+3,none⟩ b3).setCell ⟨g,j*6+4,none⟩ b4).setCell ⟨g,j*6+5,none⟩ b5):=fun k hp=>
  (((((k.setCell (p:=⟨g,j*6,none⟩) hp b0).setCell (p:=⟨g,j*6+1,none⟩) hp b1).setCell (p:=⟨g,j*6+2,none⟩) hp b2).setCell (p:=⟨g,j*6+3,none⟩) hp b3).setCell (p:=⟨g,j*6+4,none⟩) hp b4).setCell (p:=⟨g,j*6+5,none⟩) hp b5
 have kg:=ks (Keep.refl (fun b=>b≠g) wr) (.inr (by simp))
 exact⟨ks q1 (.inl hW),⟨st,kg.blk q2 (show f≠g by omega)⟩,kg.blk q3 (show p≠g by omega),kg.blk q4 (show d≠g by omega),own_set6 q5 hj b0 b1 b2 b3 b4 b5⟩
theorem PutJ.cut{W:World}{f p d g cap n m m' c:Nat}{short:Bool}{L:List Value}{wr:World}(h:PutJ W f p d g cap n m c short L wr)(hW:W.heap.size≤p)(h1:f<d)(h2:d<g)(h3:g<p):PutJ W f p d g cap n m' c short L (wr.setCell ⟨p,3,none⟩ (.slice (some ⟨g,0,none⟩) m' cap)):=by
 obtain⟨q1,⟨st,q2⟩,q3,q4,q5⟩:=h
 have kp:=(Keep.refl (fun b=>b≠p) wr).setCell (p:=⟨p,3,none⟩) (.inr (by simp)) (.slice (some ⟨g,0,none⟩) m' cap)
 refine⟨q1.setCell (p:=⟨p,3,none⟩) (.inl hW) _,⟨st,kp.blk q2 (show f≠p by omega)⟩,by simpa using blk_set q3 3 (.slice (some ⟨g,0,none⟩) m' cap),kp.blk q4 (show d≠p by omega),?_⟩
 obtain⟨e1,e2⟩:=q5
 refine⟨e1,?_⟩
 rcases e2 with⟨e,_⟩ | ⟨g',cap',cur,hv,hg,hb,hr⟩
 ·cases e
 ·cases hv
  exact .inr ⟨g,cap,cur,rfl,hg,kp.blk hb (show g≠p by omega),hr⟩
theorem Mem.take{w:World}{us:List V}{L:List Value}(h:Mem w us L)(m:Nat):Mem w (us.take m) (L.take (m*6)):=by
 induction m generalizing us L with
 | zero=>simpa using Mem.nil
 | succ m ih=>
   cases us with
   | nil=>cases h;simpa using Mem.nil
   | cons v us=>
     obtain⟨a0,a1,a2,a3,a4,a5,cr,rfl,h1,h2⟩:=h.head6
     have:=h1.append (ih h2)
     simpa [Nat.add_mul]using this
theorem PutJ.val{W:World}{f p d g cap n m c:Nat}{short:Bool}{L:List Value}{wr:World}(h:PutJ W f p d g cap n m c short L wr)(hc:c<18446744073709551616)(hf:FormsAt W f short){us:List V}(hm:Mem W us L)(hn:us.length=n)(hmn:m≤n):
 VM wr (.mk 21 0 [] (us.take m) 0 [.mk 5 c [] [] 0 []]) (.agg #[.int .i64 21,.int .u64 0,.string ⟨#[]⟩,.slice (some ⟨g,0,none⟩) m cap,.int .i64 0,.slice (some ⟨d,0,none⟩) 1 1]):=by
 obtain⟨q1,q2,q3,q4,q5⟩:=h
 obtain⟨st,hfh⟩:=hf
 have hcap:=own_cap q5
 refine VM.mk (n:=0) (t:=[]) (by omega) ⟨L.take (m*6),⟨some ⟨g,0,none⟩,cap,by rw [List.length_take,hn,Nat.min_eq_left hmn],by rw [List.length_take];omega,hcap.2,by rw [List.length_take,List.length_take,hm.len,hn];omega,fun _=>⟨g,0,rfl,fun q u hq=>?_⟩⟩,(hm.take m).keepN hfh (by simp) q1⟩ ?_
 ·rw [List.getElem?_take]at hq
  split at hq
  ·rw [Nat.zero_add];exact(own_at q5 q hq).1
  ·cases hq
 ·refine⟨_,⟨some ⟨d,0,none⟩,1,rfl,Nat.le_refl _,by unfold maxLen;omega,?_,fun _=>⟨d,0,rfl,fun q u hq=>?_⟩⟩,mem_plain wr 5 c [] hc⟩
  ·rfl
  ·rw [blk_cell q4,Nat.zero_add]
   simpa using hq
theorem PutK.of{fs:List (V×V)}{us:List V}{m n:Nat}(h:PutD fs us)(hn:us.length=n)(hf:n=fs.length)(hmn:m≤n)(hz:∀i (h:i<us.length),m≤i→us[i].kind=0):PutK fs (us.take m):=by
 refine⟨by rw [List.length_take];omega,fun j h1 h2=>?_,fun j h2 hj=>?_⟩
 ·rw [List.getElem_take]
  exact h j (by rw [List.length_take]at h1;omega) h2
 ·rw [List.length_take]at hj
  exact⟨us[j]'(by omega),h j (by omega) h2,hz j (by omega) (by omega)⟩
def PutI(fs:List (V×V))(W:World)(f p d g cap n c:Nat)(short:Bool)(j:Nat)(wr:World):Prop:=
 ∃(done:List V) (cd cr:List Value),PutJ W f p d g cap n n c short (cd++cr) wr∧done.length=j∧PutD fs done∧Mem W done cd∧Mem W ((fs.map (·.1)).drop j) cr
def PutM(fs:List (V×V))(W:World)(f p d g cap n c:Nat)(short:Bool)(cd cr:List Value)(F:V×V)(wr:World):Prop:=
 ∃(x:V) (A1 A2:Option Addr) (c1 c2:Nat),Put0 F x∧Mem W [x] [.int .i64 x.kind,.int .u64 (x.num:Int),.string ⟨x.text.toArray⟩,.slice A1 x.kids.length c1,.int .i64 x.of,.slice A2 x.desc.length c2]∧PutJ W f p d g cap n n c short (cd++.int .i64 x.kind::.int .u64 (x.num:Int)::.string ⟨x.text.toArray⟩::.slice A1 x.kids.length c1::.int .i64 x.of::.slice A2 x.desc.length c2::cr) wr
theorem Mem.parts1{w:World}{u:V}{r0 r1 r2 r3 r4 r5:Value}(h:Mem w [u] [r0,r1,r2,r3,r4,r5]):∃A c A' c',r0=.int .i64 u.kind∧r1=.int .u64 (u.num:Int)∧r2=.string ⟨u.text.toArray⟩∧r3=.slice A u.kids.length c∧r4=.int .i64 u.of∧r5=.slice A' u.desc.length c':=by
 have hv:VM w u (.agg #[r0,r1,r2,r3,r4,r5]):=⟨_,rfl,h⟩
 obtain⟨A,c,o,A',c',heq,-,ho⟩:=hv.parts'
 simp only [Value.agg.injEq,Array.mk.injEq,List.cons.injEq,and_true]at heq
 obtain⟨rfl,rfl,rfl,rfl,rfl,rfl⟩:=heq
 exact⟨A,c,A',c',rfl,rfl,rfl,rfl,by rw [ho],rfl⟩
theorem VM.mem1{w:World}{u:V}{y:Value}(h:VM w u y):∃y0 y1 y2 y3 y4 y5,y=.agg #[y0,y1,y2,y3,y4,y5]∧Mem w [u] [y0,y1,y2,y3,y4,y5]:=by
 obtain⟨cells,rfl,hm⟩:=h
 obtain⟨y0,y1,y2,y3,y4,y5,cr,rfl,h1,h2⟩:=hm.head6
 cases h2
 exact⟨y0,y1,y2,y3,y4,y5,rfl,h1⟩
def PutT(fs:List (V×V))(W:World)(f p d g cap n c:Nat)(short:Bool)(m:Nat)(wr:World):Prop:=
 ∃(us:List V) (L:List Value),PutJ W f p d g cap n m c short L wr∧us.length=n∧PutD fs us∧Mem W us L∧m≤n∧∀i (h:i<us.length),m≤i→us[i].kind=0
theorem put_is(c:Nat)(hc:c<18446744073709551616)(fs:List (V×V))(hm:fs.length≤1000)(hpos:0<fs.length)(hput:∀ks,PutK fs ks→PutOK (.mk 21 0 [] ks 0 [.mk 5 c [] [] 0 []]))(f:Nat)(short:Bool)(w:World)(s:Value)(hs:FM w fs s)(hf:FormsAt w f short):
 Calls Tryz.prog 9 #[.agg #[.int .u64 (c:Int),s],.pointer (some ⟨f,0,none⟩)] w fun e w'=>∃sl b ks,e=.returned sl∧Keep (fun b=>b≠f) w w'∧FormsAt w' f short∧RowB w' w.heap.size sl b∧PutK fs ks∧EncW [.mk 21 0 [] ks 0 [.mk 5 c [] [] 0 []]] b:=by
 obtain⟨A,cc,rfl,-,-⟩:=hs.shape
 obtain⟨n,hn⟩:∃n,n=fs.length:=⟨_,rfl⟩
 have M:=Lib.hid hn
 have hm':=hm
 rw [←hn]at hs hm hpos ⊢
 have kA:=(Keep.refl (fun _=>True) w).alloc (.cells #[.int .u64 (c:Int),.slice A n cc] 33)
 have HW:=Lib.hid (whole_is c hc fs hm' (w.alloc (.cells #[.int .u64 (c:Int),.slice A n cc] 33)) _ (hs.keep kA) n hn)
 have HSA:=hs.keep kA
 have hfA:=hf.new kA
 have hflt:f<w.heap.size:=hf.lt
 obtain⟨WA,hWA⟩:∃WA,WA=w.alloc (.cells #[.int .u64 (c:Int),.slice A n cc] 33):=⟨_,rfl⟩
 have kBA:New WA WA:=Keep.refl _ _
 have hszA:WA.heap.size=w.heap.size+1:=by rw [hWA,World.size_alloc]
 have hbox:WA.heap[w.heap.size]? =some (.cells #[.int .u64 (c:Int),.slice A n cc] 33 (0,0)):=by rw [hWA];exact blk_new w _
 rw [←hWA]at HSA hfA kA
 have HWA:=Lib.hid hWA
 have HSZ:=Lib.hid hszA
 have HPUT:=Lib.hid hput
 have HFA:=Lib.hid hfA
 have HKA:=Lib.hid kA
 have HFS:=Lib.hid HSA
 have HBX:=Lib.hid hbox
 clear hm' hs hf hfA hput hszA hbox hn kA HSA kBA hWA
 go_enter Tryz.func9,Tryz.ntmps9
 go_wp2_with fail
 refine HW.out.mono ?_
 rintro e w1 ⟨sk,d,rfl,k1,⟨cells,hown,hmem⟩,hd1,hdb⟩
 rw [←HWA.out]at k1 hmem hd1
 obtain⟨Ag,cap,rfl⟩:=own_shape hown
 have hg:∃g,Ag=some ⟨g,0,none⟩∧d+2≤g∧g<w1.heap.size:=by
  rcases hown.2 with⟨_,h0⟩ | ⟨g,cap',cur,hv,hg,hb,_⟩
  ·omega
  ·cases hv;exact⟨g,rfl,hg,lt_blk hb⟩
 obtain⟨g,rfl,hg1,hg2⟩:=hg
 have hbx1:=k1.blk HBX.out trivial
 have q1:∀o,(w1.alloc o).cell? ⟨w.heap.size,1,none⟩=some (.slice A n cc):=fun o=>cell_alloc ((blk_cell hbx1 1).trans rfl) o
 obtain⟨p,hp⟩:∃p,p=w1.heap.size:=⟨_,rfl⟩
 have hq1:=q1 (.cells #[.int .i64 21,.int .u64 0,.string ⟨#[]⟩,.slice (some ⟨g,0,none⟩) n cap,.int .i64 0,.slice (some ⟨d,0,none⟩) 1 1] 78)
 have kV:=(Keep.refl (fun _=>True) w1).alloc (.cells #[.int .i64 21,.int .u64 0,.string ⟨#[]⟩,.slice (some ⟨g,0,none⟩) n cap,.int .i64 0,.slice (some ⟨d,0,none⟩) 1 1] 78)
 have hpn:=blk_new w1 (.cells #[.int .i64 21,.int .u64 0,.string ⟨#[]⟩,.slice (some ⟨g,0,none⟩) n cap,.int .i64 0,.slice (some ⟨d,0,none⟩) 1 1] 78)
 rw [←hp]at hpn
 have hst:PutI fs WA f p d g cap n c short 0 (w1.alloc (.cells #[.int .i64 21,.int .u64 0,.string ⟨#[]⟩,.slice (some ⟨g,0,none⟩) n cap,.int .i64 0,.slice (some ⟨d,0,none⟩) 1 1] 78)):=
  ⟨[],[],cells,⟨New.keep (k1.trans kV) _,(HFA.out.new k1).new kV,hpn,kV.blk hdb trivial,own_keep hown kV⟩,rfl,fun i h1=>absurd h1 (by simp),.nil,hmem⟩
 have HST:=Lib.hid hst
 have hgp:g<p:=by omega
 have hwd:w.heap.size<d:=by have:=HSZ.out;omega
 have hfd:f<d:=by omega
 have hdg:d<g:=by omega
 have hdp:d<p:=by omega
 have hWg:WA.heap.size≤g:=by omega
 have hWp:WA.heap.size≤p:=by omega
 have HP:=Lib.hid hp
 clear hst hown hmem hdb k1 kV hpn hbx1 q1 hg2 hd1 hp
 go_wp2_with fail
 go_loopg [13] n (fun kk s13 wr=>∃j:Nat,j+kk=n∧s13=.int .i64 (j:Int)∧PutI fs WA f p d g cap n c short j wr)
 case atStart=>exact⟨0,by omega,rfl,HST.out⟩
 case round=>
  obtain⟨j,hj,rfl,done,cd,cr,hJ,hdl,hPD,hmd,hmr⟩:=hrel
  clear HST
  rcases gk with _ | kk
  ·obtain rfl:n=j:=by omega
   have hcr:cr=[]:=by
    have e:(fs.map (·.1)).drop n=[]:=List.drop_eq_nil_of_le (by rw [List.length_map,←M.out];exact Nat.le_refl _)
    rw [e]at hmr
    cases hmr
    rfl
   subst hcr
   rw [List.append_nil]at hJ
   have HT:=Lib.hid (show PutT fs WA f p d g cap n c short n wr from⟨done,cd,hJ,hdl,hPD,hmd,Nat.le_refl _,fun i h hi=>absurd h (by omega)⟩)
   clear hJ hdl hPD hmd hmr
   go_wp2_with fail
   go_loopg [] n (fun m wr=>PutT fs WA f p d g cap n c short m wr)
   case atStart=>exact HT.out
   case round=>
    obtain⟨us,L,hJ,hul,hPD,hmu,hmn,hz⟩:=hrel
    clear HT
    have HJ:=Lib.hid hJ
    have HUL:=Lib.hid hul
    have HPD:=Lib.hid hPD
    have HMU:=Lib.hid hmu
    have HZ:=Lib.hid hz
    have v3:=(blk_cell hJ.2.2.1 3).trans rfl
    rw [HP.out]at v3
    clear hJ hul hPD hmu hz
    go_upto_region 9 with fail
    go_cut [77] (fun s77 wc=>∃b:Bool,s77=.bool b∧(b=true→∃m,gk=m+1∧∀h:m<us.length,us[m].kind=0)∧PutJ WA f p d g cap n gk c short L wc)
    case first=>
     rcases gk with _ | m
     ·go_wp2
      go_meet
      exact⟨false,rfl,(fun h=>by cases h),HJ.out⟩
     ·have hmu2:m<us.length:=by have:=HUL.out;omega
      obtain⟨e0,e1,e2,e3,e4,e5,hve,l0,-⟩:=HMU.out.at m hmu2
      obtain⟨A9,c9,o9,A0,c0,heq,-,-⟩:=hve.parts'
      simp only [Value.agg.injEq,Array.mk.injEq,List.cons.injEq,and_true]at heq
      obtain⟨rfl,rfl,rfl,rfl,rfl,rfl⟩:=heq
      obtain⟨y0,-⟩:=own_at HJ.out.2.2.2.2 _ l0
      obtain⟨u,hu⟩:∃u,u=us[m]:=⟨_,rfl⟩
      rw [←hu]at y0
      have HU:=Lib.hid (show ∀h:u.kind=0,∀h:m<us.length,us[m].kind=0 from fun h _=>by rw [←hu];exact h)
      clear hve l0 hu hmu2
      by_cases hk:u.kind=0
      ·have tk:(u.kind==0)=true:=by simpa using hk
       have HK:=Lib.hid (HU.out hk)
       have hpk:=Lib.hid (pick_is f 4 (by omega) (by omega) short wr HJ.out.2.1)
       clear hk
       go_wp2_with fail
       refine hpk.out.mono ?_
       rintro e w3 ⟨q,rfl,hq,k3,hf3⟩
       have HJ3:=Lib.hid (HJ.out.step k3 hf3 hfd hdp)
       rcases q with _ | q
       ·go_wp2
        go_meet
        exact⟨false,rfl,(fun h=>by cases h),HJ3.out⟩
       ·go_wp2
        go_meet
        exact⟨true,rfl,fun _=>⟨m,rfl,HK.out⟩,HJ3.out⟩
      ·have tk:(u.kind==0)=false:=by simpa using hk
       go_wp2
       go_meet
       exact⟨false,rfl,(fun h=>by cases h),HJ.out⟩
    case rest=>
     obtain⟨b,rfl,hb,hJc⟩:=hcut
     have HB:=Lib.hid hb
     have HJC:=Lib.hid hJc
     clear hb hJc HJ v3
     cases b
     ·have hPK:=PutK.of HPD.out HUL.out M.out hmn HZ.out
      have hcall:=HPUT.out _ hPK wc _ f short (HJC.out.val hc HFA.out HMU.out HUL.out hmn) HJC.out.2.1
      have z0:=(blk_cell HJC.out.2.2.1 0).trans rfl
      have z1:=(blk_cell HJC.out.2.2.1 1).trans rfl
      have z2:=(blk_cell HJC.out.2.2.1 2).trans rfl
      have z3:=(blk_cell HJC.out.2.2.1 3).trans rfl
      have z4:=(blk_cell HJC.out.2.2.1 4).trans rfl
      have z5:=(blk_cell HJC.out.2.2.1 5).trans rfl
      rw [HP.out]at z0 z1 z2 z3 z4 z5
      have HCALL:=Lib.hid hcall
      have HPK:=Lib.hid hPK
      have HWC:=Lib.hid ((New.keep HKA.out (fun b=>b≠f)).trans HJC.out.1)
      have hsz:=HWC.out.size
      clear hcall hPK HJC HB
      go_wp2_with fail
      refine HCALL.out.mono ?_
      rintro e w5 ⟨sl,bb,rfl,henc,k5,hf5,hrow⟩
      go_wp2
      go_ret
      exact⟨sl,bb,_,rfl,HWC.out.trans k5,hf5,hrow.mono hsz,HPK.out,henc⟩
     ·obtain⟨m,hgm,hk0⟩:=HB.out (by first | rfl | trivial)
      subst hgm
      have HK0:=Lib.hid hk0
      have v3:=(blk_cell HJC.out.2.2.1 3).trans rfl
      have F3:=blk_free HJC.out.2.2.1 3
      rw [HP.out]at v3 F3
      have S3:=Lib.hid (blk_set HJC.out.2.2.1 3 (.slice (some ⟨g,0,none⟩) m cap))
      have hmc:m≤cap:=by have:=(own_cap HJC.out.2.2.2.2).1;omega
      clear hk0 HB
      go_wp2_with fail
      go_roundg m
      case measure=>omega
      case rel=>
       rw [←HP.out]
       refine⟨us,L,HJC.out.cut hWp hfd hdg hgp,HUL.out,HPD.out,HMU.out,by omega,fun i h hi=>?_⟩
       rcases Nat.lt_or_ge m i with h1 | h1
       ·exact HZ.out i h h1
       ·obtain rfl:m=i:=by omega
        exact HK0.out h
  ·have hjn:j<n:=by omega
   have tj:decide (j<n)=true:=by simpa using hjn
   have hj1:j<fs.length:=by rw [←M.out];exact hjn
   obtain⟨st0,hfh⟩:=HFA.out
   have hFM:=HFS.out.keepN hfh (by simp) (by decide) hJ.1
   obtain⟨d2,i2,hAe,-,-,-,hat⟩:=hFM.at (fun h=>by rw [h]at hj1;simp at hj1)
   cases hAe
   obtain⟨a0,a1,a2,a3,a4,a5,b0,b1,b2,b3,b4,b5,hva,hvb,g0,g1,g2,g3,g4,g5,g6,g7,g8,g9,g10,g11⟩:=hat j hj1
   have hdr:(fs.map (·.1)).drop j=fs[j].1::(fs.map (·.1)).drop (j+1):=by
    rw [List.drop_eq_getElem_cons (by simpa using hj1)]
    simp
   rw [hdr]at hmr
   obtain⟨r0,r1,r2,r3,r4,r5,cr',rfl,hmj,hmr2⟩:=hmr.head6
   have hstp:=fun (u:V) (hu:Put1 fs[j] u)=>hPD.step (by rw [hdl];exact hj1) (by simpa only [hdl]using hu)
   obtain⟨F,hF⟩:∃F,F=fs[j]:=⟨_,rfl⟩
   rw [←hF]at hva hvb hmj hstp
   clear hF hdr hat hfh hFM
   obtain⟨u,x⟩:=F
   simp only at hva hvb hmj
   obtain⟨A5,c5,A6,c6,rfl,rfl,rfl,rfl,rfl,rfl⟩:=hmj.parts1
   obtain⟨A7,c7,o7,A8,c8,heq,-,-⟩:=hva.parts'
   simp only [Value.agg.injEq,Array.mk.injEq,List.cons.injEq,and_true]at heq
   obtain⟨rfl,rfl,rfl,rfl,rfl,rfl⟩:=heq
   obtain⟨B7,e7,p7,B8,e8,heq,-,-⟩:=hvb.parts'
   simp only [Value.agg.injEq,Array.mk.injEq,List.cons.injEq,and_true]at heq
   obtain⟨rfl,rfl,rfl,rfl,rfl,rfl⟩:=heq
   have hcdl:cd.length=j*6:=by rw [hmd.len,hdl]
   have HJ:=Lib.hid hJ
   have HSTP:=Lib.hid hstp
   have HMD:=Lib.hid hmd
   have HMR:=Lib.hid hmr2
   have HMJ:=Lib.hid hmj
   have HVA:=Lib.hid hva
   have HVB:=Lib.hid hvb
   have HCD:=Lib.hid hcdl
   have HDL:=Lib.hid hdl
   have HPD:=Lib.hid hPD
   clear hJ hstp hmd hmr hmr2 hmj hva hvb hcdl hdl hPD
   go_upto_region 5 with fail
   go_cut [39] (fun s39 wc=>∃b:Bool,s39=.bool b∧(b=true→u.kind≠0∧x.kind≠0∧sameV u x=true)∧PutJ WA f p d g cap n n c short (cd++.int .i64 u.kind::.int .u64 (u.num:Int)::.string ⟨u.text.toArray⟩::.slice A5 u.kids.length c5::.int .i64 u.of::.slice A6 u.desc.length c6::cr') wc)
   case first=>
    have kN:=(Keep.refl (fun _=>True) wr).alloc (.cells #[.int .i64 u.kind,.int .u64 (u.num:Int),.string ⟨u.text.toArray⟩,.slice A7 u.kids.length c7,.int .i64 o7,.slice A8 u.desc.length c8,.int .i64 x.kind,.int .u64 (x.num:Int),.string ⟨x.text.toArray⟩,.slice B7 x.kids.length e7,.int .i64 p7,.slice B8 x.desc.length e8] 81)
    by_cases hu0:u.kind=0
    ·have tu:(u.kind !=0)=false:=by simpa using hu0
     have tu':(u.kind==0)=true:=by simpa using hu0
     clear hu0
     go_wp2
     go_meet
     exact⟨false,rfl,(fun h=>by cases h),HJ.out.new kN hfd hdp⟩
    ·have tu:(u.kind !=0)=true:=by simpa using hu0
     have tu':(u.kind==0)=false:=by simpa using hu0
     by_cases hx0:x.kind=0
     ·have tx:(x.kind !=0)=false:=by simpa using hx0
      have tx':(x.kind==0)=true:=by simpa using hx0
      clear hx0
      go_wp2
      go_meet
      exact⟨false,rfl,(fun h=>by cases h),HJ.out.new kN hfd hdp⟩
     ·have tx:(x.kind !=0)=true:=by simpa using hx0
      have tx':(x.kind==0)=false:=by simpa using hx0
      have HC:=Lib.hid (same_val _ u x (Nat.le_refl _) (wr.alloc (.cells #[.int .i64 u.kind,.int .u64 (u.num:Int),.string ⟨u.text.toArray⟩,.slice A7 u.kids.length c7,.int .i64 o7,.slice A8 u.desc.length c8,.int .i64 x.kind,.int .u64 (x.num:Int),.string ⟨x.text.toArray⟩,.slice B7 x.kids.length e7,.int .i64 p7,.slice B8 x.desc.length e8] 81)) _ _ (HVA.out.keep kN) (HVB.out.keep kN))
      obtain⟨bb,hbb⟩:∃bb,bb=sameV u x:=⟨_,rfl⟩
      rw [←hbb]at HC
      have HBB:=Lib.hid hbb
      clear hbb
      go_wp2_with fail
      refine HC.out.mono ?_
      rintro e w2 ⟨rfl,k2⟩
      have hJ2:=(HJ.out.new kN hfd hdp).new k2 hfd hdp
      cases bb
      ·go_wp2
       go_meet
       exact⟨false,rfl,(fun h=>by cases h),hJ2⟩
      ·have hpk:=pick_is f 2 (by omega) (by omega) short w2 hJ2.2.1
       have HJ2:=Lib.hid hJ2
       clear hJ2
       go_wp2_with fail
       refine hpk.mono ?_
       rintro e w3 ⟨q,rfl,hq,k3,hf3⟩
       have HJ3:=Lib.hid (HJ2.out.step k3 hf3 hfd hdp)
       rcases q with _ | _ | q
       ·go_wp2
        go_meet
        exact⟨true,rfl,fun _=>⟨hu0,hx0,HBB.out.symm⟩,HJ3.out⟩
       ·go_wp2
        go_meet
        exact⟨false,rfl,(fun h=>by cases h),HJ3.out⟩
       ·omega
   case rest=>
    obtain⟨b,rfl,hb,hJc⟩:=hcut
    have HB:=Lib.hid hb
    have HJC:=Lib.hid hJc
    clear hb hJc HJ HVA HVB
    go_upto_if 39 with fail
    go_cut [] (fun wc=>PutM fs WA f p d g cap n c short cd cr' (u,x) wc)
    case first=>
     cases b
     ·go_wp2
      go_meet
      exact⟨u,A5,A6,c5,c6,.inl rfl,HMJ.out,HJC.out⟩
     ·have v3:=(blk_cell HJC.out.2.2.1 3).trans rfl
      rw [HP.out]at v3
      obtain⟨⟨q0,q1,q2,q3,q4,q5⟩,f0,f1,f2,f3,f4,f5⟩:=own_six HJC.out.2.2.2.2 HCD.out
      go_wp2
      go_meet
      exact⟨nul,none,none,0,0,.inr ⟨rfl,HB.out (by first | rfl | trivial)⟩,mem_plain WA 0 0 [] (by omega),HJC.out.set6 HCD.out hWg hfd hdg hgp _ _ _ _ _ _⟩
    case rest=>
     obtain⟨z,A1,A2,c1,c2,hz,hmz,hJz⟩:=hcut
     have v3:=(blk_cell hJz.2.2.1 3).trans rfl
     rw [HP.out]at v3
     obtain⟨⟨q0,q1,q2,q3,q4,q5⟩,-⟩:=own_six hJz.2.2.2.2 HCD.out
     have kd:=(Keep.refl (fun _=>True) wc).drew
     have hJd:=hJz.new kd hfd hdp
     have hin:=inside_is z WA wc.drew _ f short ⟨_,rfl,hmz⟩ hJd.1 HFA.out hJd.2.1
     have HIN:=Lib.hid hin
     have HZ:=Lib.hid hz
     have HJD:=Lib.hid hJd
     clear hin hz hmz hJz hJd kd HJC HB HMJ
     go_wp2_with fail
     go_region_law
      (go_simp;go_at_call 34;refine HIN.out.mono ?_;rintro e w4 ⟨y,rfl,k4,hf4,u',hiu,hvu⟩;have hJ4:=HJD.out.step k4 hf4 hfd hdp;have hmu:=hvu.mem1;obtain⟨y0,y1,y2,y3,y4,y5,rfl,hmu⟩:=hmu;obtain⟨A9,c9,A0,c0,rfl,rfl,rfl,rfl,rfl,rfl⟩:=hmu.parts1;have p3:=(blk_cell hJ4.2.2.1 3).trans rfl;rw [HP.out]at p3;obtain⟨⟨l0,l1,l2,l3,l4,l5⟩,f0,f1,f2,f3,f4,f5⟩:=own_six hJ4.2.2.2.2 HCD.out)
     all_goals
      go_wp2_with fail
      go_roundg kk
      case measure=>omega
      case rel=>exact⟨j+1,by omega,congrArg _ (by omega),done++[u'],cd++[_,_,_,_,_,_],cr',by rw [List.append_assoc];exact hJ4.set6 HCD.out hWg hfd hdg hgp _ _ _ _ _ _,by rw [List.length_append,HDL.out];rfl,HSTP.out u' (HZ.out.within hiu),HMD.out.append hmu,HMR.out⟩
end Go.Proofs.YtfoegolfadhmjaaGreatDoor
namespace Go.Proofs.YtfoegolfadhmjaaGreatDoor
open Go.RowKit Go.WideShapes
def dfl(d v:V):V:=if v.kind=0 then d else v
structure FS(d a b:V):Prop where
 ta:Tidy [dfl d a]
 tb:Tidy [dfl d b]
 same:sameL (usualV (dfl d a)) (usualV (dfl d b))=true
theorem Sims.one{a b:V}(h:Sims [a] [b]):sameL (usualV a) (usualV b)=true:=by
 have:=h.same
 simpa [usualVs,sameLs]using this
theorem tidy_leaf(k:Int)(n:Nat)(t:List UInt8)(o:Int):Tidy [.mk k n t [] o []]:=.cons (fun _=>rfl) .nil .nil
theorem dfl_nul(v:V)(h:v.kind≠0)(d:V):dfl d v=v:=if_neg h
theorem dfl_of(d v:V)(h:v.kind=0):dfl d v=d:=if_pos h
theorem fs_nul{d:V}(hd:Tidy [d])(hs:Sims [d] [d]){a b:V}(ha:a.kind=0)(hb:b.kind=0):FS d a b:=
 ⟨by rw [dfl_of _ _ ha];exact hd,by rw [dfl_of _ _ hb];exact hd,by rw [dfl_of _ _ ha,dfl_of _ _ hb];exact hs.one⟩
theorem sims_nul:Sims [nul] [nul]:=.leaf (by omega) (.inl rfl) (by omega) .nil
theorem tidy_nul:Tidy [nul]:=tidy_leaf 0 0 [] 0
theorem fs_of{d a b:V}(ha:a.kind≠0)(hb:b.kind≠0)(ta:Tidy [a])(tb:Tidy [b])(hs:Sims [a] [b]):FS d a b:=
 ⟨by rw [dfl_nul _ ha];exact ta,by rw [dfl_nul _ hb];exact tb,by rw [dfl_nul _ ha,dfl_nul _ hb];exact hs.one⟩
theorem fs_leaf(d:V){k:Int}(n:Nat)(t:List UInt8)(o o':Int)(h0:k≠0)(hk:k<21)(h20:k=20→n=0):FS d (.mk k n t [] o []) (.mk k n t [] o' []):=
 fs_of h0 h0 (tidy_leaf ..) (tidy_leaf ..) (.leaf hk (.inl rfl) h20 .nil)
theorem fs_text{k:Int}(hk:TextK k)(t:List UInt8):FS nul (txF k t) (txF k t):=by
 unfold txF
 split
 ·exact fs_nul tidy_nul sims_nul rfl rfl
 ·exact fs_leaf _ 0 t 0 0 (by unfold TextK at hk;omega) (by unfold TextK at hk;omega) (fun _=>rfl)
theorem mapA_tidy{K:Int→Prop}{l:List V}(h:MapA K l):Tidy l:=by
 obtain⟨ps,rfl,hA,_⟩:=h
 exact hA.tidy
theorem fs_map{ps qs:List (V×V)}{us:List V}(hp:ps.Perm qs)(h1:∀q∈ps,q.1.kind<21)(ht:Tidy (flat2 ps))(hs:Sims (flat2 qs) us):FS nul (mpF (flat2 ps)) (mpF us):=by
 rcases ps with _ | ⟨q,ps⟩
 ·obtain rfl:=hp.nil_eq
  cases hs
  exact fs_nul tidy_nul sims_nul rfl rfl
 ·have hu:us≠[]:=by
   have h2:=hs.len
   rw [flat2_len,←hp.length_eq]at h2
   intro e
   rw [e]at h2
   simp at h2
  have e1:mpF (flat2 (q::ps))=.mk 22 0 [] (flat2 (q::ps)) 0 []:=if_neg (by simp [flat2])
  have e2:mpF us=.mk 22 0 [] us 0 []:=if_neg hu
  rw [e1,e2]
  exact fs_of (by simp [V.kind]) (by simp [V.kind]) (.cons (fun h=>absurd h (by omega)) ht .nil) (.cons (fun h=>absurd h (by omega)) hs.tidy .nil) (Sims.map hp h1 hs .nil)
theorem fault_same{t0 t1:List UInt8}{ps qs:List (V×V)}{us:List V}(hp:ps.Perm qs)(h1:∀q∈ps,q.1.kind<21)(ht:Tidy (flat2 ps))(hs:Sims (flat2 qs) us):
 ∀j (h:j<3),FS (fauF t0 t1 (flat2 ps))[j].2 (fauF t0 t1 (flat2 ps))[j].1 (fauF t0 t1 us)[j].1:=by
 intro j h
 match j,h with
 | 0,_=>exact fs_leaf _ 0 t0 0 0 (by omega) (by omega) (fun _=>rfl)
 | 1,_=>exact fs_text (.inl rfl) t1
 | 2,_=>exact fs_map hp h1 ht hs
end Go.Proofs.YtfoegolfadhmjaaGreatDoor
