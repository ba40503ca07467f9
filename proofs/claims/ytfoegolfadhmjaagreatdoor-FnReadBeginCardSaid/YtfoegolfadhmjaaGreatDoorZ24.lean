/- spec.numbered at kinds that have shorter forms. -/
import Derived.Test.YtfoegolfadhmjaaGreatDoorZ22
import Derived.Test.YtfoegolfadhmjaaGreatDoorZ23
set_option linter.all false
set_option maxRecDepth 100000
set_option maxHeartbeats 8000000
namespace Go.Proofs.YtfoegolfadhmjaaGreatDoor
open Go.RowKit Go.WideShapes
def shortP(k:Int)(n:Nat):List (UInt8×List UInt8):=
 if k=4 then(if n=0 then [(67,[])]else [])++(if n<256 then [(82,beB 1 n)]else [])
 else if k=5 then(if n=0 then [(68,[])]else [])++(if n<256 then [(83,beB 1 n)]else [])
 else if k=8 then(if -128≤sgn n∧sgn n<128 then [(84,beB 1 n)]else [])
 else if k=9 then(if -128≤sgn n∧sgn n<128 then [(85,beB 1 n)]else [])
 else []
theorem sgn_wrap(n:Nat)(hn:n<18446744073709551616):wrap64 (n:Int)=sgn n:=rfl
theorem put_front(X:World){base:Nat}{s0:Value}{fs:List (UInt8×List UInt8)}(hrow:RowG 143 2 Pcs X base s0 fs)(hfs:0<fs.length)(hfs2:fs.length≤1000)(hb:base≤X.heap.size)(c:UInt8):
 ∃r w',(Builtin.append_ #[140,140] 140 #[.slice (some ⟨X.heap.size,0,none⟩) 1 1,s0]).run Tryz.prog (X.alloc (.cells #[.int .i64 (c.toNat:Int),.slice none 0 0] 143))=.ok r w'∧New X w'∧RowG 143 2 Pcs w' base r ((c,[])::fs):=by
 have kN:=(Keep.refl (fun _=>True) X).alloc (.cells #[.int .i64 (c.toNat:Int),.slice none 0 0] 143)
 have row:RowG 143 2 Pcs (X.alloc (.cells #[.int .i64 (c.toNat:Int),.slice none 0 0] 143)) X.heap.size (.slice (some ⟨X.heap.size,0,none⟩) 1 1) [(c,[])]:=
  ⟨[.int .i64 (c.toNat:Int),.slice none 0 0],⟨rfl,.inr ⟨X.heap.size,1,#[.int .i64 (c.toNat:Int),.slice none 0 0],rfl,Nat.le_refl _,blk_new X _,Nat.le_refl _,by unfold maxLen;omega,rfl,rfl⟩⟩,fun w' _=>Pcs.cons (RowB.nil (w:=w') (base:=0)).out.here.toC .nil⟩
 obtain⟨cells,ho,hd⟩:=hrow
 have hsl:=(slG_own ho).keep kN
 obtain⟨A,cc,hs0⟩:∃A cc,s0=.slice A fs.length cc:=(let ⟨A,cc,e,_⟩:=hsl.shape;⟨A,cc,e⟩)
 have hs1:=hs0
 rw [hs0]at hsl
 obtain⟨d,i,hA,_,_,_,hcell⟩:=hsl.at (by omega)
 have hlen:=pieceCells.len hd.here
 have hown:=row.far
 obtain⟨g,cap,w',hr,hrow',k',hg⟩:=(row.mono hb).step pieceCells (vs:=fs) Tryz.underlying140 info143 rfl (by omega) (by omega) d i cc cells (fun j u hj=>hcell j u (by rw [←hlen];exact(List.getElem?_eq_some_iff.1 hj).1) hj)
  (hd.step kN.size (fun i hi _=>kN.block i hi trivial) (fun b hb' hok=>⟨hok.1,hown b hb'⟩)) hfs (by simp;omega) (Nat.le_trans hb kN.size)
 exact⟨_,w',by rw [hs0,hA];exact hr,kN.then k' (fun i hi _=>hown i hi),hrow'⟩
theorem numbered_two(FX:FixOK)(k:Int)(code:UInt8)(s:Nat)(hs:s≤8)(hk:(codedL.lookup k).getD 0=(code.toNat:Int))(hf:fixedV k=s)(hcl:k=4∨k=5∨k=8∨k=9)
 (n:Nat) (hn:n<18446744073709551616) (t:List UInt8) (A1 A2:Option Addr) (a c1 b c2:Nat) (o:Int) (w:World):
 Calls Tryz.prog 85 #[.agg #[.int .i64 k,.int .u64 (n:Int),.string ⟨t.toArray⟩,.slice A1 a c1,.int .i64 o,.slice A2 b c2]] w fun e w'=>∃sl,e=.returned sl∧New w w'∧RowG 143 2 Pcs w' w.heap.size sl (shortP k n++[(code,beB s n)]):=by
 have hc1:=fun w=>coded_is k w
 have hc2:=fun w=>FX k w
 have hc3:=fun w=>big_is n s hn hs w
 rw [hk]at hc1
 rw [hf]at hc2
 have H1:=Lib.hid hc1
 have H2:=Lib.hid hc2
 have H3:=Lib.hid hc3
 have q0:=(blk_cell (blk_new w (.cells #[.int .i64 k,.int .u64 (n:Int),.string ⟨t.toArray⟩,.slice A1 a c1,.int .i64 o,.slice A2 b c2] 78)) 0).trans rfl
 have q1:=(blk_cell (blk_new w (.cells #[.int .i64 k,.int .u64 (n:Int),.string ⟨t.toArray⟩,.slice A1 a c1,.int .i64 o,.slice A2 b c2] 78)) 1).trans rfl
 clear hc1 hc2 hc3 hk hf FX
 go_enter Tryz.func85,Tryz.ntmps85
 go_wp2_with fail
 go_quiet (fail)
 go_wp2_with fail
 go_upto_region 2 with fail
 go_cut [5] (fun s5 wc=>∃(p:Nat) (v:Value),s5=.pointer (some ⟨p,0,none⟩)∧wc.heap[p]? =some (.cells #[.int .i64 (code.toNat:Int),v] 143 (0,0))∧New w wc∧w.heap.size<p∧Dep (fun b=>w.heap.size≤b∧b≠p) wc (fun w=>SlB w v (beB s n))∧wc.cell? ⟨w.heap.size,0,none⟩=some (.int .i64 k))
 case first=>
  go_region_held3 (fun w'=>w'.cell? ⟨w.heap.size,0,none⟩=some (.int .i64 k)∧New w w')
   (first | exact sb | exact sc | exact sf | exact hold1 sb ((Keep.refl _ _).alloc _) | exact hold1 sc ((Keep.refl _ _).alloc _) | exact hold1 sf ((Keep.refl _ _).alloc _) | exact holdS (holdS sb (by omega) (by omega)) (by omega) (by omega) | exact holdS (holdS sc (by omega) (by omega)) (by omega) (by omega) | exact holdS (holdS sf (by omega) (by omega)) (by omega) (by omega) | exact hold1 (by assumption) ((Keep.refl _ _).alloc _) | exact⟨q0,(((Keep.refl _ w).alloc _).drewN _).drew⟩)
   (first | (go_at_call 82;refine(H1.out _).mono ?_;rintro e wc ⟨rfl,kc⟩;have sc:=hold1 (by assumption) kc;have zc:=kc.size;(try simp only [World.size_alloc,World.size_drew,drewN_size]at zc);(first | have P:=kc.blk P trivial | have P:=kc.blk (blk_new (w.alloc (.cells #[.int .i64 k,.int .u64 (n:Int),.string ⟨t.toArray⟩,.slice A1 a c1,.int .i64 o,.slice A2 b c2] 78)) (.cells #[.int .i64 0,.slice none 0 0] 143)) trivial | have P:=kc.blk (blk_new _ _) trivial | skip);(try simp only [World.size_alloc,World.size_drew,drewN_size]at P);(try (have P0:=(blk_cell P 0).trans rfl;have P1:=(blk_cell P 1).trans rfl;have F0:=blk_free P 0;have F1:=blk_free P 1))) | (go_at_call 135;refine(H2.out _).mono ?_;rintro e wf ⟨rfl,kf⟩;have sf:=hold1 (by assumption) kf;have zf:=kf.size;(try simp only [World.size_alloc,World.size_drew,drewN_size]at zf);(first | have P:=kf.blk P trivial | have P:=kf.blk (blk_new (w.alloc (.cells #[.int .i64 k,.int .u64 (n:Int),.string ⟨t.toArray⟩,.slice A1 a c1,.int .i64 o,.slice A2 b c2] 78)) (.cells #[.int .i64 0,.slice none 0 0] 143)) trivial | have P:=kf.blk (blk_new _ _) trivial | skip);(try simp only [World.size_alloc,World.size_drew,drewN_size]at P);(try (have P0:=(blk_cell P 0).trans rfl;have P1:=(blk_cell P 1).trans rfl;have F0:=blk_free P 0;have F1:=blk_free P 1))) | (go_at_call 133;refine(H3.out _).mono ?_;rintro e wb ⟨v,rfl,kb,hrb⟩;have sb:=hold1 (by assumption) kb;have zb:=kb.size;(try simp only [World.size_alloc,World.size_drew,drewN_size]at zb);(first | have P:=kb.blk P trivial | have P:=kb.blk (blk_new (w.alloc (.cells #[.int .i64 k,.int .u64 (n:Int),.string ⟨t.toArray⟩,.slice A1 a c1,.int .i64 o,.slice A2 b c2] 78)) (.cells #[.int .i64 0,.slice none 0 0] 143)) trivial | have P:=kb.blk (blk_new _ _) trivial | skip);(try simp only [World.size_alloc,World.size_drew,drewN_size]at P);(try (have P0:=(blk_cell P 0).trans rfl;have P1:=(blk_cell P 1).trans rfl;have F0:=blk_free P 0;have F1:=blk_free P 1));obtain⟨Av,nv,cv,hv⟩:∃A n c,v=.slice A n c:=(let ⟨A,c,e⟩:=hrb.shape;⟨A,_,c,e⟩);subst hv))
  all_goals (go_wp2_with fail;go_meet;first | exact⟨_,_,rfl,fin_alloc sb hrb.out (Keep.refl _ _) (fun k _ h=>by (try simp only [World.size_alloc,World.size_drew,drewN_size]at h);omega) (by omega) _ _⟩ | exact⟨_,_,rfl,fin_set P sb hrb.out (Keep.refl _ _) (fun k hk h=>by (try simp only [World.size_alloc,World.size_drew,drewN_size]at h);omega) (by omega) _ _⟩ | exact⟨_,_,rfl,fin_alloc sc hrb.out kc (fun k _ h=>by (try simp only [World.size_alloc,World.size_drew,drewN_size]at h);omega) (by omega) _ _⟩ | exact⟨_,_,rfl,fin_set P sc hrb.out kc (fun k hk h=>by (try simp only [World.size_alloc,World.size_drew,drewN_size]at h);omega) (by omega) _ _⟩ | exact⟨_,_,rfl,fin_alloc sc hrb.out (kf.trans kc) (fun k _ h=>by (try simp only [World.size_alloc,World.size_drew,drewN_size]at h);omega) (by omega) _ _⟩ | exact⟨_,_,rfl,fin_set P sc hrb.out (kf.trans kc) (fun k hk h=>by (try simp only [World.size_alloc,World.size_drew,drewN_size]at h);omega) (by omega) _ _⟩)
 case rest=>
  obtain⟨p,v,rfl,hp,kc,hpl,hd,hkc⟩:=hcut
  obtain⟨Av,nv,cv,hv⟩:∃A n c,v=.slice A n c:=(let ⟨A,c,e,_⟩:=hd.here;⟨A,_,c,e⟩)
  subst hv
  have p0:=(blk_cell hp 0).trans rfl
  have p1:=(blk_cell hp 1).trans rfl
  have hkc2:=cell_alloc hkc (.cells #[.int .i64 (code.toNat:Int),.slice Av nv cv] 143)
  have kN:=(Keep.refl (fun _=>True) wc).alloc (.cells #[.int .i64 (code.toNat:Int),.slice Av nv cv] 143)
  have hsz:=kc.size
  have HD:=Lib.hid hd
  have row0:RowG 143 2 Pcs (wc.alloc (.cells #[.int .i64 (code.toNat:Int),.slice Av nv cv] 143)) w.heap.size (.slice (some ⟨wc.heap.size,0,none⟩) 1 1) [(code,beB s n)]:=⟨[.int .i64 (code.toNat:Int),.slice Av nv cv],⟨rfl,.inr ⟨wc.heap.size,1,#[.int .i64 (code.toNat:Int),.slice Av nv cv],rfl,hsz,blk_new wc _,Nat.le_refl _,by unfold maxLen;omega,rfl,rfl⟩⟩,
   (hd.step kN.size (fun i hi _=>kN.block i hi trivial) (fun b hb hok=>⟨hok.1,fun e=>by simp [Value.ownBlock]at e;omega⟩)).imp fun w h=>Pcs.cons h.toC .nil⟩
  have kw:=kc.trans kN
  clear hp hd H1 H2 H3
  have HR0:=Lib.hid row0
  have hb0:w.heap.size≤(wc.alloc (.cells #[.int .i64 (code.toNat:Int),.slice Av nv cv] 143)).heap.size:=kw.size
  rcases hcl with rfl | rfl | rfl | rfl
  ·by_cases h256:n<256
   ·have f256:decide ((n:Int)<256)=true:=by simpa using (by omega:(n:Int)<256)
    go_wp2_with fail
    rename_i hK
    refine ins_region_8 (c:=82) rfl rfl rfl rfl hkc2 hn rfl (by omega) HR0.out (by simp) (by simp) ?_
    intro a' w' ag kk row
    obtain⟨s6,h6⟩:∃s,a'.eval (.tmp 6)=s:=⟨_,rfl⟩
    rw [h6]at row
    have e:=ag.eq
    simp only [setAll,h6,List.set_cons_succ,List.set_cons_zero]at e
    generalize a'.eval (.tmp 30)=x0 at e
    generalize a'.eval (.tmp 31)=x1 at e
    generalize a'.eval (.tmp 32)=x2 at e
    generalize a'.eval (.tmp 33)=x3 at e
    generalize a'.eval (.tmp 34)=x4 at e
    generalize a'.eval (.tmp 35)=x5 at e
    generalize a'.eval (.tmp 36)=x6 at e
    generalize a'.eval (.tmp 37)=x7 at e
    generalize a'.eval (.tmp 38)=x8 at e
    generalize a'.eval (.tmp 39)=x9 at e
    generalize a'.eval (.tmp 40)=x10 at e
    subst e
    refine hK _ _ ?_
    obtain⟨A6,n6,c6,rfl⟩:∃A n c,s6=.slice A n c:=(let ⟨A,c,e⟩:=row.shape;⟨A,_,c,e⟩)
    have kw':=kw.trans kk
    have HR:=Lib.hid row
    by_cases h0:n=0
    ·have f0:((n:Int)==0)=true:=by simpa using h0
     have z1:=make294 w'
     have z2:=ins_new w' 4 67
     have z3:=ins_two w' 5 68 4 67 (by decide)
     have z4:=look_gen (w'.alloc (.map #[ent 4 67 0,ent 5 68 1] 2)) w'.heap.size _ 2 4 0 67 (blk_new w' _) rfl
     have z5:=cell_alloc (kk.cell hkc2 trivial) (.map #[ent 4 67 0,ent 5 68 1] 2)
     have kM:=(Keep.refl (fun _=>True) w').alloc (.map #[ent 4 67 0,ent 5 68 1] 2)
     obtain⟨r,w9,z6,k9,row9⟩:=put_front (w'.alloc (.map #[ent 4 67 0,ent 5 68 1] 2)) (HR.out.keep kM (fun _ _=>trivial)) (by simp) (by simp) (Nat.le_trans kw'.size kM.size) 67
     have z6b:(Builtin.append_ #[140,140] 140 #[.slice (some ⟨w'.heap.size+1,0,none⟩) 1 1,.slice A6 n6 c6]).run Tryz.prog ((w'.alloc (.map #[ent 4 67 0,ent 5 68 1] 2)).alloc (.cells #[.int .i64 67,.slice none 0 0] 143))=.ok r w9:=by rw [←World.size_alloc w' (.map #[ent 4 67 0,ent 5 68 1] 2)];exact z6
     have HAP:=Lib.hid z6b
     clear z6 z6b
     go_wp2_with (at_builtin;refine wpList_append_eq rfl _ _ 140 rfl _ _ _ _ rfl rfl HAP.out ?_)
     go_ret
     exact⟨_,rfl,(kw'.trans kM).trans k9,by simpa [shortP,h0]using row9⟩
    ·have f0:((n:Int)==0)=false:=by simpa using h0
     go_wp2
     go_ret
     exact⟨_,rfl,kw',by simpa [shortP,h0,h256]using HR.out⟩
   ·have f256:decide ((n:Int)<256)=false:=by simpa using (by omega:¬(n:Int)<256)
    have f0:((n:Int)==0)=false:=by simpa using (by omega:¬n=0)
    have h0:¬n=0:=by omega
    go_wp2
    go_ret
    exact⟨_,rfl,kw,by simpa [shortP,h0,h256]using HR0.out⟩
  ·by_cases h256:n<256
   ·have f256:decide ((n:Int)<256)=true:=by simpa using (by omega:(n:Int)<256)
    go_wp2_with fail
    rename_i hK
    refine ins_region_8 (c:=83) rfl rfl rfl rfl hkc2 hn rfl (by omega) HR0.out (by simp) (by simp) ?_
    intro a' w' ag kk row
    obtain⟨s6,h6⟩:∃s,a'.eval (.tmp 6)=s:=⟨_,rfl⟩
    rw [h6]at row
    have e:=ag.eq
    simp only [setAll,h6,List.set_cons_succ,List.set_cons_zero]at e
    generalize a'.eval (.tmp 30)=x0 at e
    generalize a'.eval (.tmp 31)=x1 at e
    generalize a'.eval (.tmp 32)=x2 at e
    generalize a'.eval (.tmp 33)=x3 at e
    generalize a'.eval (.tmp 34)=x4 at e
    generalize a'.eval (.tmp 35)=x5 at e
    generalize a'.eval (.tmp 36)=x6 at e
    generalize a'.eval (.tmp 37)=x7 at e
    generalize a'.eval (.tmp 38)=x8 at e
    generalize a'.eval (.tmp 39)=x9 at e
    generalize a'.eval (.tmp 40)=x10 at e
    subst e
    refine hK _ _ ?_
    obtain⟨A6,n6,c6,rfl⟩:∃A n c,s6=.slice A n c:=(let ⟨A,c,e⟩:=row.shape;⟨A,_,c,e⟩)
    have kw':=kw.trans kk
    have HR:=Lib.hid row
    by_cases h0:n=0
    ·have f0:((n:Int)==0)=true:=by simpa using h0
     have z1:=make294 w'
     have z2:=ins_new w' 4 67
     have z3:=ins_two w' 5 68 4 67 (by decide)
     have z4:=look_gen (w'.alloc (.map #[ent 4 67 0,ent 5 68 1] 2)) w'.heap.size _ 2 5 1 68 (blk_new w' _) rfl
     have z5:=cell_alloc (kk.cell hkc2 trivial) (.map #[ent 4 67 0,ent 5 68 1] 2)
     have kM:=(Keep.refl (fun _=>True) w').alloc (.map #[ent 4 67 0,ent 5 68 1] 2)
     obtain⟨r,w9,z6,k9,row9⟩:=put_front (w'.alloc (.map #[ent 4 67 0,ent 5 68 1] 2)) (HR.out.keep kM (fun _ _=>trivial)) (by simp) (by simp) (Nat.le_trans kw'.size kM.size) 68
     have z6b:(Builtin.append_ #[140,140] 140 #[.slice (some ⟨w'.heap.size+1,0,none⟩) 1 1,.slice A6 n6 c6]).run Tryz.prog ((w'.alloc (.map #[ent 4 67 0,ent 5 68 1] 2)).alloc (.cells #[.int .i64 68,.slice none 0 0] 143))=.ok r w9:=by rw [←World.size_alloc w' (.map #[ent 4 67 0,ent 5 68 1] 2)];exact z6
     have HAP:=Lib.hid z6b
     clear z6 z6b
     go_wp2_with (at_builtin;refine wpList_append_eq rfl _ _ 140 rfl _ _ _ _ rfl rfl HAP.out ?_)
     go_ret
     exact⟨_,rfl,(kw'.trans kM).trans k9,by simpa [shortP,h0]using row9⟩
    ·have f0:((n:Int)==0)=false:=by simpa using h0
     go_wp2
     go_ret
     exact⟨_,rfl,kw',by simpa [shortP,h0,h256]using HR.out⟩
   ·have f256:decide ((n:Int)<256)=false:=by simpa using (by omega:¬(n:Int)<256)
    have f0:((n:Int)==0)=false:=by simpa using (by omega:¬n=0)
    have h0:¬n=0:=by omega
    go_wp2
    go_ret
    exact⟨_,rfl,kw,by simpa [shortP,h0,h256]using HR0.out⟩
  ·have hsgn:=sgn_wrap n hn
   by_cases h1:-128≤sgn n∧sgn n<128
   ·have f1:decide (-128≤wrap64 (n:Int))=true:=by rw [hsgn];simpa using h1.1
    have f2:decide (wrap64 (n:Int)<128)=true:=by rw [hsgn];simpa using h1.2
    go_wp2_with fail
    rename_i hK
    refine ins_region_14 (c:=84) rfl rfl rfl rfl hkc2 hn rfl (by omega) HR0.out (by simp) (by simp) ?_
    intro a' w' ag kk row
    obtain⟨s6,h6⟩:∃s,a'.eval (.tmp 6)=s:=⟨_,rfl⟩
    rw [h6]at row
    have e:=ag.eq
    simp only [setAll,h6,List.set_cons_succ,List.set_cons_zero]at e
    generalize a'.eval (.tmp 61)=x0 at e
    generalize a'.eval (.tmp 62)=x1 at e
    generalize a'.eval (.tmp 63)=x2 at e
    generalize a'.eval (.tmp 64)=x3 at e
    generalize a'.eval (.tmp 65)=x4 at e
    generalize a'.eval (.tmp 66)=x5 at e
    generalize a'.eval (.tmp 67)=x6 at e
    generalize a'.eval (.tmp 68)=x7 at e
    generalize a'.eval (.tmp 69)=x8 at e
    generalize a'.eval (.tmp 70)=x9 at e
    generalize a'.eval (.tmp 71)=x10 at e
    subst e
    refine hK _ _ ?_
    obtain⟨A6,n6,c6,rfl⟩:∃A n c,s6=.slice A n c:=(let ⟨A,c,e⟩:=row.shape;⟨A,_,c,e⟩)
    have kw':=kw.trans kk
    have HR:=Lib.hid row
    go_wp2
    go_ret
    exact⟨_,rfl,kw',by simpa [shortP,h1]using HR.out⟩
   ·by_cases h2:-128≤sgn n
    ·have f1:decide (-128≤wrap64 (n:Int))=true:=by rw [hsgn];simpa using h2
     have f2:decide (wrap64 (n:Int)<128)=false:=by rw [hsgn];simpa using (by omega:¬sgn n<128)
     go_wp2
     go_ret
     exact⟨_,rfl,kw,by simpa [shortP,h1]using HR0.out⟩
    ·have f1:decide (-128≤wrap64 (n:Int))=false:=by rw [hsgn];simpa using h2
     go_wp2
     go_ret
     exact⟨_,rfl,kw,by simpa [shortP,h1]using HR0.out⟩
  ·have hsgn:=sgn_wrap n hn
   by_cases h1:-128≤sgn n∧sgn n<128
   ·have f1:decide (-128≤wrap64 (n:Int))=true:=by rw [hsgn];simpa using h1.1
    have f2:decide (wrap64 (n:Int)<128)=true:=by rw [hsgn];simpa using h1.2
    go_wp2_with fail
    rename_i hK
    refine ins_region_14 (c:=85) rfl rfl rfl rfl hkc2 hn rfl (by omega) HR0.out (by simp) (by simp) ?_
    intro a' w' ag kk row
    obtain⟨s6,h6⟩:∃s,a'.eval (.tmp 6)=s:=⟨_,rfl⟩
    rw [h6]at row
    have e:=ag.eq
    simp only [setAll,h6,List.set_cons_succ,List.set_cons_zero]at e
    generalize a'.eval (.tmp 61)=x0 at e
    generalize a'.eval (.tmp 62)=x1 at e
    generalize a'.eval (.tmp 63)=x2 at e
    generalize a'.eval (.tmp 64)=x3 at e
    generalize a'.eval (.tmp 65)=x4 at e
    generalize a'.eval (.tmp 66)=x5 at e
    generalize a'.eval (.tmp 67)=x6 at e
    generalize a'.eval (.tmp 68)=x7 at e
    generalize a'.eval (.tmp 69)=x8 at e
    generalize a'.eval (.tmp 70)=x9 at e
    generalize a'.eval (.tmp 71)=x10 at e
    subst e
    refine hK _ _ ?_
    obtain⟨A6,n6,c6,rfl⟩:∃A n c,s6=.slice A n c:=(let ⟨A,c,e⟩:=row.shape;⟨A,_,c,e⟩)
    have kw':=kw.trans kk
    have HR:=Lib.hid row
    go_wp2
    go_ret
    exact⟨_,rfl,kw',by simpa [shortP,h1]using HR.out⟩
   ·by_cases h2:-128≤sgn n
    ·have f1:decide (-128≤wrap64 (n:Int))=true:=by rw [hsgn];simpa using h2
     have f2:decide (wrap64 (n:Int)<128)=false:=by rw [hsgn];simpa using (by omega:¬sgn n<128)
     go_wp2
     go_ret
     exact⟨_,rfl,kw,by simpa [shortP,h1]using HR0.out⟩
    ·have f1:decide (-128≤wrap64 (n:Int))=false:=by rw [hsgn];simpa using h2
     go_wp2
     go_ret
     exact⟨_,rfl,kw,by simpa [shortP,h1]using HR0.out⟩
end Go.Proofs.YtfoegolfadhmjaaGreatDoor
