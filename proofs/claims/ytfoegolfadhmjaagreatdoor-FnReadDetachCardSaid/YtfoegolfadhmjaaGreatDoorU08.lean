/- spec.lengthed: with a count. n. Maps of integers that are written out. The codes and sizes of the kinds. spec.asciiOnly, spec.in, spec.boolSize, spec.keyKind, spec.arrayKind: what they say where they say yes. spec.fixedSize. spec.numbered: the forms of a number. Maps of two integers that a region makes. A region of drawn order by one invariant: every operation once. spec.fixedSize. Regions of spec.numbered that put a short form ahead: one invariant. -/
import Derived.Test.YtfoegolfadhmjaaGreatDoorU01
import Derived.Test.YtfoegolfadhmjaaGreatDoorU03
import Derived.Test.YtfoegolfadhmjaaGreatDoorU07
import Derived.Lib.ValidLaws
set_option linter.unusedVariables false
set_option linter.unusedSimpArgs false
set_option maxRecDepth 100000
set_option maxHeartbeats 8000000
set_option linter.all false
namespace Go.Proofs.YtfoegolfadhmjaaGreatDoor
open Go.RowKit Go.WideShapes
theorem lengthed_n(c8 c32:UInt8)(v:Value)(l:List UInt8)(n:Nat)(hn:n≤1000)(w:World)(hv:SlC w v l)(hl:l.length≤1000000000):
 Calls Tryz.prog 83 #[.int .i64 (c8.toNat:Int),.int .i64 (c32.toNat:Int),v,(.int .i64 (n:Int))] w fun e w'=>∃sl,e=.returned sl∧New w w'∧RowG 143 2 Pcs w' w.heap.size sl (lngc c8 c32 l n):=by
 have HV:=Lib.hid hv
 obtain⟨A,c,rfl,-⟩:=hv
 obtain⟨N,hN⟩:∃N,N=l.length:=⟨_,rfl⟩
 have HN:=Lib.hid hN
 rw [←hN]at HV hl ⊢
 clear hN
 go_enter Tryz.func83,Tryz.ntmps83
 go_wp2_with fail
 go_loopg [9,20] 2 (fun kk s9 s20 wr=>New w wr∧wr.heap[w.heap.size]? =some (.cells #[.int .i64 (c8.toNat:Int),.int .i64 1,.int .i64 (c32.toNat:Int),.int .i64 4] 296 (0,0))∧((kk=2∧s20=.int .i64 0∧RowG 143 2 Pcs wr (w.heap.size+1) s9 [])∨(kk=1∧s20=.int .i64 1∧RowG 143 2 Pcs wr (w.heap.size+1) s9 (if n≤255∧l.length+1≤255 then [(c8,beB 1 (l.length+1)++(beB 1 n++l))]else []))∨(kk=0∧s20=.int .i64 2∧RowG 143 2 Pcs wr (w.heap.size+1) s9 (lngc c8 c32 l n))))
 case atStart=>exact⟨(Keep.refl _ w).alloc _,blk_new w _,.inl ⟨rfl,rfl,RowG.nil pieceCells⟩⟩
 case round=>
  obtain⟨kr,hfm,hst⟩:=hrel
  rcases hst with⟨rfl,rfl,hrow⟩ | ⟨rfl,rfl,hrow⟩ | ⟨rfl,rfl,hrow⟩
  ·obtain⟨A9,c9,hs9⟩:=hrow.shape
   subst hs9
   obtain⟨us,hus⟩:∃us,us=([]:List (UInt8×List UInt8)):=⟨_,rfl⟩
   rw [←hus]at hrow ⊢
   have HUS:=Lib.hid hus
   have hul:us.length≤1:=by rw [hus];simp
   clear hus
   have g0:=(blk_cell hfm 0).trans rfl
   have g1:=(blk_cell hfm 1).trans rfl
   have HROW:=Lib.hid hrow
   have HFM:=Lib.hid hfm
   have hsz:=kr.size
   have hszw:=lt_blk hfm
   have hownlt:=Lib.hid (fun g (hg:Value.ownBlock (.slice A9 us.length c9)=some g)=>hrow.ownLt hg)
   clear hrow hfm
   have kA:=((Keep.refl (fun _=>True) wr).alloc (.cells #[.int .i64 (c8.toNat:Int),.int .i64 1] 296)).alloc (.cells #[] 5)
   have hF:=blk_alloc (blk_new wr (.cells #[.int .i64 (c8.toNat:Int),.int .i64 1] 296)) (.cells #[] 5)
   have hE:=blk_new (wr.alloc (.cells #[.int .i64 (c8.toNat:Int),.int .i64 1] 296)) (.cells #[] 5)
   rw [World.size_alloc]at hE
   have x0:=(blk_cell hF 0).trans rfl
   have x1:=(blk_cell hF 1).trans rfl
   have HEmp:Hid (SlC ((wr.alloc (.cells #[.int .i64 (c8.toNat:Int),.int .i64 1] 296)).alloc (.cells #[] 5)) (.slice (some ⟨wr.heap.size+1,0,none⟩) 0 0) []):=Lib.hid ⟨_,0,rfl,Nat.le_refl _,by omega,fun h=>absurd rfl h⟩
   by_cases hc:n≤255
   case neg=>
    have t1:decide ((255:Int)<(n:Int))=true:=by simp;omega
    go_wp2
    go_roundg 1
    case measure=>omega
    case rel=>
     refine⟨kr.trans kA,kA.blk HFM.out trivial,.inr (.inl ⟨rfl,rfl,?_⟩)⟩
     rw [if_neg (by rw [←HN.out];omega)]
     have:=HROW.out.keep kA (fun _ _=>trivial)
     exact Eq.mp (congrArg (fun z=>RowG 143 2 Pcs _ (w.heap.size+1) (.slice A9 us.length c9) z) HUS.out) this
   have t1:decide ((255:Int)<(n:Int))=false:=by simp;omega
   have hun:=u64n (n:=n) (by omega)
   have hbig:=Lib.hid (big_is n 1 (by omega) (by omega) ((wr.alloc (.cells #[.int .i64 (c8.toNat:Int),.int .i64 1] 296)).alloc (.cells #[] 5)).drew)
   go_wp2_with fail
   go_upto_region 9 with fail
   go_cut [12,13] (fun s12 s13 wc=>∃(Ah:Option Addr) (nh ch:Nat),s13=.slice Ah nh ch∧s12=.int .i64 ((N:Int)+1)∧New ((wr.alloc (.cells #[.int .i64 (c8.toNat:Int),.int .i64 1] 296)).alloc (.cells #[] 5)) wc∧RowB wc ((wr.alloc (.cells #[.int .i64 (c8.toNat:Int),.int .i64 1] 296)).alloc (.cells #[] 5)).drew.heap.size (.slice Ah nh ch) (beB 1 n)∧wc.cell? ⟨wr.heap.size,0,none⟩=some (.int .i64 (c8.toNat:Int))∧wc.cell? ⟨wr.heap.size,1,none⟩=some (.int .i64 1))
   case first=>
    go_region_law (first | (go_simp;go_at_call 133;refine hbig.out.mono ?_;rintro e w3 ⟨vh,rfl,k3,hh3⟩;obtain⟨Ah,nh,ch,hvh⟩:∃A n c,vh=.slice A n c:=(let ⟨A,c,e⟩:=hh3.shape;⟨A,_,c,e⟩);subst hvh;have x03:=k3.cell (show((wr.alloc (.cells #[.int .i64 (c8.toNat:Int),.int .i64 1] 296)).alloc (.cells #[] 5)).drew.cell? _=_ from x0) trivial;have x13:=k3.cell (show((wr.alloc (.cells #[.int .i64 (c8.toNat:Int),.int .i64 1] 296)).alloc (.cells #[] 5)).drew.cell? _=_ from x1) trivial))
    all_goals (go_wp2_with fail;go_meet;exact⟨Ah,nh,ch,rfl,congrArg _ (IntWalk.i64_in _ ⟨by omega,by omega⟩),((Keep.refl _ _).drew).trans k3,hh3,x03,x13⟩)
   case rest=>
    obtain⟨Ah,nh,ch,rfl,rfl,k3,hh3,x03,x13⟩:=hcut
    have hs3:=k3.size
    have kA3:=kA.trans k3
    obtain⟨w3,rfl⟩:∃w3,w3=wc:=⟨_,rfl⟩
    by_cases hc2:N+1≤255
    case neg=>
     have t2:decide ((255:Int)<(N:Int)+1)=true:=by simp;omega
     go_wp2
     go_roundg 1
     case measure=>omega
     case rel=>
      refine⟨kr.trans kA3,kA3.blk HFM.out trivial,.inr (.inl ⟨rfl,rfl,?_⟩)⟩
      rw [if_neg (by rw [←HN.out];omega)]
      have:=HROW.out.keep kA3 (fun _ _=>trivial)
      exact Eq.mp (congrArg (fun z=>RowG 143 2 Pcs _ (w.heap.size+1) (.slice A9 us.length c9) z) HUS.out) this
    have t2:decide ((255:Int)<(N:Int)+1)=false:=by simp;omega
    have hu:=u64n (n:=N+1) (by omega)
    have hu:IntKind.u64.wrap ((N:Int)+1)=(N:Int)+1:=by simpa using hu
    have HH3:=hh3.out.here
    have hpm:=piece_made w3.drew (N+1) 1 (by omega) (by omega) (beB 1 n) l _ _ (HH3.toC.keep ((Keep.refl _ _).drew)) (((HV.out.keep (kr.trans kA3)).keep ((Keep.refl _ _).drew))) (by have:=HN.out;simp [beB_len];omega)
    have kW:=kA3.drew
    have HPM:=Lib.hid hpm
    have KW:=Lib.hid kW
    clear hpm kW
    go_wp2_with fail
    go_region_law (first
     | (go_simp;go_at_call 133;refine HPM.out.mono ?_;rintro e w4 ⟨v4,v5,w5,v6,w6,rfl,k4,hr5,k5,hr6,k6,hrow6⟩;have y4:=k4.cell (show(w3.drew).cell? _=_ from x03) trivial;have y5:=k5.cell (show(w3.drew).cell? _=_ from x03) trivial;have y6:=k6.cell (show(w3.drew).cell? _=_ from x03) trivial;obtain⟨A6,n6,c6,hs6⟩:∃A n c,v6=.slice A n c:=(let ⟨A,c,e⟩:=hrow6.shape;⟨A,_,c,e⟩);subst hs6;have y7:=cell_alloc y6 (.cells #[.int .i64 (c8.toNat:Int),(.slice A6 n6 c6)] 143);have kN:=(Keep.refl (fun _=>True) w6).alloc (.cells #[.int .i64 (c8.toNat:Int),(.slice A6 n6 c6)] 143);obtain⟨g7,cap7,w7,hap7,hrow7,k7,_⟩:=((HROW.out.keep (KW.out.trans k6) (fun _ _=>trivial)).keep kN (fun _ _=>trivial)).step pieceCells (vs:=[(c8,beB 1 (N+1)++beB 1 n++l)]) Tryz.underlying140 info143 rfl (by omega) (by omega) w6.heap.size 0 1 [.int .i64 (c8.toNat:Int),(.slice A6 n6 c6)] (fun q z hq=>by rw [blk_cell (blk_new w6 (.cells #[.int .i64 (c8.toNat:Int),(.slice A6 n6 c6)] 143)),Nat.zero_add];simpa using hq) ((hrow6.out.step kN.size (fun i hi _=>kN.block i hi trivial) (fun b hb hok=>⟨Nat.le_trans (Nat.le_trans hszw (KW.out.size)) hok,fun e=>Nat.lt_irrefl _ (Nat.lt_of_lt_of_le (hownlt.out b e.symm) (Nat.le_trans KW.out.size hok))⟩)).imp fun w h=>Pcs.cons h.toC .nil) (by simp) (by simp;omega) (Nat.le_trans (Nat.le_trans (Nat.le_trans hszw KW.out.size) k6.size) kN.size);simp only [List.length_singleton]at hap7 hrow7)
     | (refine at_dst 61 (by rfl) ?_;refine step_append_eq hr5 (by rfl) _ _ (by rfl) (by rfl) (by rfl) ?_)
     | (refine at_dst 63 (by rfl) ?_;refine step_append_eq hr6 (by rfl) _ _ (by rfl) (by rfl) (by rfl) ?_)
     | (refine at_dst 66 (by rfl) ?_;refine step_append_eq hap7 (by rfl) _ _ (by rfl) (by rfl) (by rfl) ?_))
    all_goals
     go_wp2
     go_roundg 1
     case measure=>omega
     case rel=>
      have kall:=(KW.out.trans k6).trans kN
      have hfar:=HROW.out.far
      have hE:us++[(c8,beB 1 (N+1)++beB 1 n++l)]=((if n≤255∧l.length+1≤255 then [(c8,beB 1 (l.length+1)++(beB 1 n++l))]else []):List (UInt8×List UInt8)):=by
       rw [HUS.out,HN.out,if_pos ⟨by omega,by rw [←HN.out];omega⟩];simp
      refine⟨(kr.trans kall).then k7 (fun i hi _=>hfar i (by omega)),k7.blk (kall.blk HFM.out trivial) (hfar _ (by omega)),.inr (.inl ⟨rfl,rfl,?_⟩)⟩
      exact Eq.mp (congrArg (fun z=>RowG 143 2 Pcs w7 (w.heap.size+1) (.slice (some ⟨g7,0,none⟩) (us.length+1) cap7) z) hE) hrow7
  ·obtain⟨A9,c9,hs9⟩:=hrow.shape
   subst hs9
   obtain⟨us,hus⟩:∃us,us=((if n≤255∧l.length+1≤255 then [(c8,beB 1 (l.length+1)++(beB 1 n++l))]else []):List (UInt8×List UInt8)):=⟨_,rfl⟩
   rw [←hus]at hrow ⊢
   have HUS:=Lib.hid hus
   have hul:us.length≤1:=by rw [hus];split<;>simp
   clear hus
   have g0:=(blk_cell hfm 2).trans rfl
   have g1:=(blk_cell hfm 3).trans rfl
   have HROW:=Lib.hid hrow
   have HFM:=Lib.hid hfm
   have hsz:=kr.size
   have hszw:=lt_blk hfm
   have hownlt:=Lib.hid (fun g (hg:Value.ownBlock (.slice A9 us.length c9)=some g)=>hrow.ownLt hg)
   clear hrow hfm
   have kA:=((Keep.refl (fun _=>True) wr).alloc (.cells #[.int .i64 (c32.toNat:Int),.int .i64 4] 296)).alloc (.cells #[] 5)
   have hF:=blk_alloc (blk_new wr (.cells #[.int .i64 (c32.toNat:Int),.int .i64 4] 296)) (.cells #[] 5)
   have hE:=blk_new (wr.alloc (.cells #[.int .i64 (c32.toNat:Int),.int .i64 4] 296)) (.cells #[] 5)
   rw [World.size_alloc]at hE
   have x0:=(blk_cell hF 0).trans rfl
   have x1:=(blk_cell hF 1).trans rfl
   have HEmp:Hid (SlC ((wr.alloc (.cells #[.int .i64 (c32.toNat:Int),.int .i64 4] 296)).alloc (.cells #[] 5)) (.slice (some ⟨wr.heap.size+1,0,none⟩) 0 0) []):=Lib.hid ⟨_,0,rfl,Nat.le_refl _,by omega,fun h=>absurd rfl h⟩
   have hun:=u64n (n:=n) (by omega)
   have hbig:=Lib.hid (big_is n 4 (by omega) (by omega) ((wr.alloc (.cells #[.int .i64 (c32.toNat:Int),.int .i64 4] 296)).alloc (.cells #[] 5)).drew)
   go_wp2_with fail
   go_upto_region 9 with fail
   go_cut [12,13] (fun s12 s13 wc=>∃(Ah:Option Addr) (nh ch:Nat),s13=.slice Ah nh ch∧s12=.int .i64 ((N:Int)+4)∧New ((wr.alloc (.cells #[.int .i64 (c32.toNat:Int),.int .i64 4] 296)).alloc (.cells #[] 5)) wc∧RowB wc ((wr.alloc (.cells #[.int .i64 (c32.toNat:Int),.int .i64 4] 296)).alloc (.cells #[] 5)).drew.heap.size (.slice Ah nh ch) (beB 4 n)∧wc.cell? ⟨wr.heap.size,0,none⟩=some (.int .i64 (c32.toNat:Int))∧wc.cell? ⟨wr.heap.size,1,none⟩=some (.int .i64 4))
   case first=>
    go_region_law (first | (go_simp;go_at_call 133;refine hbig.out.mono ?_;rintro e w3 ⟨vh,rfl,k3,hh3⟩;obtain⟨Ah,nh,ch,hvh⟩:∃A n c,vh=.slice A n c:=(let ⟨A,c,e⟩:=hh3.shape;⟨A,_,c,e⟩);subst hvh;have x03:=k3.cell (show((wr.alloc (.cells #[.int .i64 (c32.toNat:Int),.int .i64 4] 296)).alloc (.cells #[] 5)).drew.cell? _=_ from x0) trivial;have x13:=k3.cell (show((wr.alloc (.cells #[.int .i64 (c32.toNat:Int),.int .i64 4] 296)).alloc (.cells #[] 5)).drew.cell? _=_ from x1) trivial))
    all_goals (go_wp2_with fail;go_meet;exact⟨Ah,nh,ch,rfl,congrArg _ (IntWalk.i64_in _ ⟨by omega,by omega⟩),((Keep.refl _ _).drew).trans k3,hh3,x03,x13⟩)
   case rest=>
    obtain⟨Ah,nh,ch,rfl,rfl,k3,hh3,x03,x13⟩:=hcut
    have hs3:=k3.size
    have kA3:=kA.trans k3
    obtain⟨w3,rfl⟩:∃w3,w3=wc:=⟨_,rfl⟩
    have hu:=u64n (n:=N+4) (by omega)
    have hu:IntKind.u64.wrap ((N:Int)+4)=(N:Int)+4:=by simpa using hu
    have HH3:=hh3.out.here
    have hpm:=piece_made w3.drew (N+4) 4 (by omega) (by omega) (beB 4 n) l _ _ (HH3.toC.keep ((Keep.refl _ _).drew)) (((HV.out.keep (kr.trans kA3)).keep ((Keep.refl _ _).drew))) (by have:=HN.out;simp [beB_len];omega)
    have kW:=kA3.drew
    have HPM:=Lib.hid hpm
    have KW:=Lib.hid kW
    clear hpm kW
    go_wp2_with fail
    go_region_law (first
     | (go_simp;go_at_call 133;refine HPM.out.mono ?_;rintro e w4 ⟨v4,v5,w5,v6,w6,rfl,k4,hr5,k5,hr6,k6,hrow6⟩;have y4:=k4.cell (show(w3.drew).cell? _=_ from x03) trivial;have y5:=k5.cell (show(w3.drew).cell? _=_ from x03) trivial;have y6:=k6.cell (show(w3.drew).cell? _=_ from x03) trivial;obtain⟨A6,n6,c6,hs6⟩:∃A n c,v6=.slice A n c:=(let ⟨A,c,e⟩:=hrow6.shape;⟨A,_,c,e⟩);subst hs6;have y7:=cell_alloc y6 (.cells #[.int .i64 (c32.toNat:Int),(.slice A6 n6 c6)] 143);have kN:=(Keep.refl (fun _=>True) w6).alloc (.cells #[.int .i64 (c32.toNat:Int),(.slice A6 n6 c6)] 143);obtain⟨g7,cap7,w7,hap7,hrow7,k7,_⟩:=((HROW.out.keep (KW.out.trans k6) (fun _ _=>trivial)).keep kN (fun _ _=>trivial)).step pieceCells (vs:=[(c32,beB 4 (N+4)++beB 4 n++l)]) Tryz.underlying140 info143 rfl (by omega) (by omega) w6.heap.size 0 1 [.int .i64 (c32.toNat:Int),(.slice A6 n6 c6)] (fun q z hq=>by rw [blk_cell (blk_new w6 (.cells #[.int .i64 (c32.toNat:Int),(.slice A6 n6 c6)] 143)),Nat.zero_add];simpa using hq) ((hrow6.out.step kN.size (fun i hi _=>kN.block i hi trivial) (fun b hb hok=>⟨Nat.le_trans (Nat.le_trans hszw (KW.out.size)) hok,fun e=>Nat.lt_irrefl _ (Nat.lt_of_lt_of_le (hownlt.out b e.symm) (Nat.le_trans KW.out.size hok))⟩)).imp fun w h=>Pcs.cons h.toC .nil) (by simp) (by simp;omega) (Nat.le_trans (Nat.le_trans (Nat.le_trans hszw KW.out.size) k6.size) kN.size);simp only [List.length_singleton]at hap7 hrow7)
     | (refine at_dst 61 (by rfl) ?_;refine step_append_eq hr5 (by rfl) _ _ (by rfl) (by rfl) (by rfl) ?_)
     | (refine at_dst 63 (by rfl) ?_;refine step_append_eq hr6 (by rfl) _ _ (by rfl) (by rfl) (by rfl) ?_)
     | (refine at_dst 66 (by rfl) ?_;refine step_append_eq hap7 (by rfl) _ _ (by rfl) (by rfl) (by rfl) ?_))
    all_goals
     go_wp2
     go_roundg 0
     case measure=>omega
     case rel=>
      have kall:=(KW.out.trans k6).trans kN
      have hfar:=HROW.out.far
      have hE:us++[(c32,beB 4 (N+4)++beB 4 n++l)]=(lngc c8 c32 l n:List (UInt8×List UInt8)):=by
       rw [HUS.out,HN.out];unfold lngc;simp
      refine⟨(kr.trans kall).then k7 (fun i hi _=>hfar i (by omega)),k7.blk (kall.blk HFM.out trivial) (hfar _ (by omega)),.inr (.inr ⟨rfl,rfl,?_⟩)⟩
      exact Eq.mp (congrArg (fun z=>RowG 143 2 Pcs w7 (w.heap.size+1) (.slice (some ⟨g7,0,none⟩) (us.length+1) cap7) z) hE) hrow7
  ·obtain⟨A9,c9,hs9⟩:=hrow.shape
   subst hs9
   go_wp2
   go_ret
   exact⟨_,rfl,kr,hrow.mono (by omega)⟩
end Go.Proofs.YtfoegolfadhmjaaGreatDoor
namespace Go.Proofs.YtfoegolfadhmjaaGreatDoor
open Go.RowKit Go.WideShapes
def IntMap(w:World)(m:Nat)(l:List (Int×Int)):Prop:=∃es clock,w.heap[m]? =some (.map es clock)∧es.toList.map (fun e=>(e.key,e.val))=l.map fun q=>(Value.int .i64 q.1,Value.int .i64 q.2)
theorem findNow_int:∀(es:List MapEntry) (l:List (Int×Int)) (i:Nat) (k:Int),es.map (fun e=>(e.key,e.val))=l.map (fun q=>(Value.int .i64 q.1,Value.int .i64 q.2))→(l.lookup k=none∧Instr.findNow (.int .i64) (.int .i64 k) es i=some none)∨∃j v,l.lookup k=some v∧Instr.findNow (.int .i64) (.int .i64 k) es i=some (some (j,.int .i64 v))
 | [],[],i,k,_=>.inl ⟨rfl,rfl⟩
 | [],_::_,_,_,h=>by simp at h
 | _::_,[],_,_,h=>by simp at h
 | e::es,(a,b)::l,i,k,h=>by
   simp only [List.map_cons,List.cons.injEq,Prod.mk.injEq]at h
   obtain⟨⟨h1,h2⟩,h3⟩:=h
   by_cases hk:k=a
   ·subst hk
    refine .inr ⟨i,b,by simp [List.lookup],?_⟩
    simp [Instr.findNow,h1,Instr.sameNow,h2]
   ·have hb:(k==a)=false:=by simpa using hk
    have:=findNow_int es l (i+1) k h3
    simpa [Instr.findNow,h1,Instr.sameNow,hb,List.lookup]using this
theorem check_int(b:Bool)(k:Int)(w:World):(Instr.checkKey b 10000 3 (.int .i64 k)).run Tryz.prog w=.ok () w:=by
 have gen:∀d,(Instr.checkKey b (d+1) 3 (.int .i64 k)).run Tryz.prog w=.ok () w:=fun d=>by
  simp [Instr.checkKey,run_underlying Tryz.underlying3,Result.andThen]
 exact gen 9999
theorem IntMap.upd{w:World}{m:Nat}{l:List (Int×Int)}(h:IntMap w m l)(k v:Int)(hk:l.lookup k=none):
 ∃w',(Instr.mapUpdate 294 (.map (some m)) (.int .i64 k) (.int .i64 v)).run Tryz.prog w=.ok () w'∧IntMap w' m (l++[(k,v)])∧Keep (fun b=>b≠m) w w':=by
 obtain⟨es,clock,hm,hl⟩:=h
 have hlt:=lt_blk hm
 have hf:(Instr.findKey 3 (.int .i64 k) es.toList).run Tryz.prog w=.ok none w:=by
  unfold Instr.findKey
  rcases findNow_int es.toList l 0 k hl with⟨_,h⟩ | ⟨j,v',h',_⟩
  ·simp only [Sem.run_bind,run_underlying Tryz.underlying3,Result.andThen_ok,h]
   rfl
  ·rw [hk]at h';cases h'
 refine⟨{ w with heap:=w.heap.setIfInBounds m (.map (es.push { key:=.int .i64 k,val:=.int .i64 v,born:=clock }) (clock+1)) },?_,⟨_,_,by simp [hlt];exact⟨rfl,rfl⟩,by simp [hl]⟩,⟨rfl,rfl,rfl,by simp,fun b hb hne=>by simp [Array.getElem?_setIfInBounds_ne (Ne.symm hne)]⟩⟩
 simp only [Instr.mapUpdate,Sem.run_bind,run_underlying Tryz.underlying294,Result.andThen_ok,getObj,Sem.run,hm,check_int,hf,setObj]
theorem IntMap.look{w:World}{m:Nat}{l:List (Int×Int)}(h:IntMap w m l)(k:Int):(Instr.lookup 294 (.map (some m)) (.int .i64 k) false).run Tryz.prog w=.ok (.int .i64 ((l.lookup k).getD 0)) w:=by
 obtain⟨es,clock,hm,hl⟩:=h
 simp only [Instr.lookup,Sem.run_bind,run_underlying Tryz.underlying294,Result.andThen_ok,getObj,hm,Sem.run_pure]
 simp only [Sem.run,hm,Result.andThen_ok,Sem.run_pure,check_int,Sem.run_bind,Instr.findKey,run_underlying Tryz.underlying3]
 rcases findNow_int es.toList l 0 k hl with⟨h1,h2⟩ | ⟨j,v',h1,h2⟩
 ·rw [h1,h2]
  kernel_rfl
 ·rw [h1,h2]
  rfl
theorem make294(w:World):(Instr.makeMap 294 none).run Tryz.prog w=.ok (.map (some w.heap.size)) (w.alloc (.map #[] 0)):=by kernel_rfl
theorem IntMap.new(w:World):IntMap (w.alloc (.map #[] 0)) w.heap.size []:=⟨#[],0,blk_new _ _,rfl⟩
end Go.Proofs.YtfoegolfadhmjaaGreatDoor
namespace Go.Proofs.YtfoegolfadhmjaaGreatDoor
open Go.RowKit Go.WideShapes
def codedL:List (Int×Int):=[(0,64),(1,86),(2,80),(6,81),(3,96),(7,97),(4,112),(8,113),(10,114),(15,115),(12,116),(5,128),(9,129),(11,130),(16,131),(13,132),(14,148),(17,152),(18,176),(19,177),(20,179),(21,208),(22,209),(23,240)]
theorem coded_is(k:Int)(w:World):Calls Tryz.prog 82 #[.int .i64 k] w fun e w'=>e=.returned (.int .i64 ((codedL.lookup k).getD 0))∧New w w':=by
 have hmk:=make294 w
 have m0:=IntMap.new w
 obtain⟨u1,e1,m1,k1⟩:=m0.upd 0 64 (by decide)
 obtain⟨u2,e2,m2,k2⟩:=m1.upd 1 86 (by decide)
 obtain⟨u3,e3,m3,k3⟩:=m2.upd 2 80 (by decide)
 obtain⟨u4,e4,m4,k4⟩:=m3.upd 6 81 (by decide)
 obtain⟨u5,e5,m5,k5⟩:=m4.upd 3 96 (by decide)
 obtain⟨u6,e6,m6,k6⟩:=m5.upd 7 97 (by decide)
 obtain⟨u7,e7,m7,k7⟩:=m6.upd 4 112 (by decide)
 obtain⟨u8,e8,m8,k8⟩:=m7.upd 8 113 (by decide)
 obtain⟨u9,e9,m9,k9⟩:=m8.upd 10 114 (by decide)
 obtain⟨u10,e10,m10,k10⟩:=m9.upd 15 115 (by decide)
 obtain⟨u11,e11,m11,k11⟩:=m10.upd 12 116 (by decide)
 obtain⟨u12,e12,m12,k12⟩:=m11.upd 5 128 (by decide)
 obtain⟨u13,e13,m13,k13⟩:=m12.upd 9 129 (by decide)
 obtain⟨u14,e14,m14,k14⟩:=m13.upd 11 130 (by decide)
 obtain⟨u15,e15,m15,k15⟩:=m14.upd 16 131 (by decide)
 obtain⟨u16,e16,m16,k16⟩:=m15.upd 13 132 (by decide)
 obtain⟨u17,e17,m17,k17⟩:=m16.upd 14 148 (by decide)
 obtain⟨u18,e18,m18,k18⟩:=m17.upd 17 152 (by decide)
 obtain⟨u19,e19,m19,k19⟩:=m18.upd 18 176 (by decide)
 obtain⟨u20,e20,m20,k20⟩:=m19.upd 19 177 (by decide)
 obtain⟨u21,e21,m21,k21⟩:=m20.upd 20 179 (by decide)
 obtain⟨u22,e22,m22,k22⟩:=m21.upd 21 208 (by decide)
 obtain⟨u23,e23,m23,k23⟩:=m22.upd 22 209 (by decide)
 obtain⟨u24,e24,m24,k24⟩:=m23.upd 23 240 (by decide)
 have hlk:=m24.look k
 simp only [List.nil_append,List.cons_append]at hlk
 have kk:Keep (fun b=>b≠w.heap.size) (w.alloc (.map #[] 0)) u24:=(((((((((((((((((((((((k1.trans k2).trans k3).trans k4).trans k5).trans k6).trans k7).trans k8).trans k9).trans k10).trans k11).trans k12).trans k13).trans k14).trans k15).trans k16).trans k17).trans k18).trans k19).trans k20).trans k21).trans k22).trans k23).trans k24)
 have KK:=Lib.hid kk
 clear kk m0 m1 k1 m2 k2 m3 k3 m4 k4 m5 k5 m6 k6 m7 k7 m8 k8 m9 k9 m10 k10 m11 k11 m12 k12 m13 k13 m14 k14 m15 k15 m16 k16 m17 k17 m18 k18 m19 k19 m20 k20 m21 k21 m22 k22 m23 k23 m24 k24
 go_enter Tryz.func82,Tryz.ntmps82
 go_wp2
 go_ret
 exact⟨rfl,((Keep.refl _ w).alloc _).then KK.out (fun i hi _=>by show i≠w.heap.size;omega)⟩
end Go.Proofs.YtfoegolfadhmjaaGreatDoor
namespace Go.Proofs.YtfoegolfadhmjaaGreatDoor
open Go.RowKit
theorem ascii_is(t:List UInt8)(ht:t.length≤1099511627776)(w:World):
 Calls Tryz.prog 140 #[.string ⟨t.toArray⟩] w fun e w'=>∃b,e=.returned (.bool b)∧New w w'∧(b=true→∀x∈t,x.toNat<128):=by
 have hsz:(⟨t.toArray⟩:ByteArray).size=t.length:=rfl
 go_enter Tryz.func140,Tryz.ntmps140
 go_wp2_with fail
 go_loopg [3] t.length (fun kk s3 wr=>∃j:Nat,j+kk=t.length∧s3=.int .i64 (j:Int)∧New w wr∧∀x∈t.take j,x.toNat<128)
 case atStart=>exact⟨0,by omega,rfl,Keep.refl _ _,by simp⟩
 case round=>
  obtain⟨j,hj,rfl,kr,hall⟩:=hrel
  have HA:=Lib.hid hall
  clear hall
  rcases gk with _ | kk
  ·obtain rfl:j=t.length:=by omega
   go_wp2
   go_ret
   refine⟨true,rfl,kr,fun _=>?_⟩
   have:=HA.out
   rwa [List.take_length]at this
  ·have hjn:j<t.length:=by omega
   have tj:decide (j<t.length)=true:=by simpa using hjn
   by_cases hx:t[j].toNat<128
   ·have tx:decide ((128:Int)≤(((⟨t.toArray⟩:ByteArray)[j]'hjn).toNat:Int))=false:=by
     have:((⟨t.toArray⟩:ByteArray)[j]'hjn)=t[j]:=rfl
     rw [this];simp;omega
    go_wp2
    go_roundg kk
    case measure=>omega
    case rel=>
     refine⟨j+1,by omega,congrArg _ (by omega),kr,fun x hx'=>?_⟩
     rw [←List.take_append_getElem hjn]at hx'
     rcases List.mem_append.1 hx' with h | h
     ·exact HA.out x h
     ·simp at h
      subst h
      exact hx
   ·have tx:decide ((128:Int)≤(((⟨t.toArray⟩:ByteArray)[j]'hjn).toNat:Int))=true:=by
     have:((⟨t.toArray⟩:ByteArray)[j]'hjn)=t[j]:=rfl
     rw [this];simp;omega
    go_wp2
    go_ret
    exact⟨false,rfl,kr,fun h=>by cases h⟩
def bsz(k:Int):Int:=if k=0∨k=1∨18≤k then 1 else 0
theorem boolSize_is(k:Int)(w:World):Calls Tryz.prog 207 #[.int .i64 k] w fun e w'=>e=.returned (.int .i64 (bsz k))∧w=w':=by
 by_cases h:k=0∨k=1∨18≤k
 ·have e:bsz k=1:=if_pos h
  rw [e]
  rcases h with rfl | rfl | h
  ·clear e
   go_enter Tryz.func207,Tryz.ntmps207
   go_wp2
   go_ret
   exact⟨rfl,rfl⟩
  ·clear e
   go_enter Tryz.func207,Tryz.ntmps207
   go_wp2
   go_ret
   exact⟨rfl,rfl⟩
  ·have e0:(k==0)=false:=by simp;omega
   have e1:(k==1)=false:=by simp;omega
   have e2:decide (18≤k)=true:=by simpa using h
   clear e h
   go_enter Tryz.func207,Tryz.ntmps207
   go_wp2
   go_ret
   exact⟨rfl,rfl⟩
 ·have e:bsz k=0:=if_neg h
  rw [e]
  have e0:(k==0)=false:=by simp;omega
  have e1:(k==1)=false:=by simp;omega
  have e2:decide (18≤k)=false:=by simp;omega
  clear e h
  go_enter Tryz.func207,Tryz.ntmps207
  go_wp2
  go_ret
  exact⟨rfl,rfl⟩
def Yes(p:Prop)(w:World)(e:Ending)(w':World):Prop:=∃b,e=.returned (.bool b)∧New w w'∧(b=true→p)
theorem Yes.no{p:Prop}{w w':World}(k:New w w'):Yes p w (.returned (.bool false)) w':=⟨false,rfl,k,fun h=>by cases h⟩
theorem Yes.yes{p:Prop}{w w':World}(k:New w w')(h:p):Yes p w (.returned (.bool true)) w':=⟨true,rfl,k,fun _=>h⟩
def keyP(k:Int):Prop:=1≤k∧k≤9∨k=16∨k=17∨k=19∨k=20
def arrP(k:Int):Prop:=1≤k∧k≤11∨16≤k∧k≤20
theorem keyKind_is(k:Int)(w:World):Calls Tryz.prog 144 #[.int .i64 k] w (Yes (keyP k) w):=by
 go_enter Tryz.func144,Tryz.ntmps144
 go_wp2
 all_goals
  go_ret
  exact⟨_,rfl,Keep.refl _ _,fun h=>by unfold keyP;simp at h<;>omega⟩
theorem arrayKind_is(k:Int)(w:World):Calls Tryz.prog 142 #[.int .i64 k] w (Yes (arrP k) w):=by
 go_enter Tryz.func142,Tryz.ntmps142
 go_wp2
 all_goals
  go_ret
  exact⟨_,rfl,Keep.refl _ _,fun h=>by unfold arrP;simp at h<;>omega⟩
end Go.Proofs.YtfoegolfadhmjaaGreatDoor
namespace Go.Proofs.YtfoegolfadhmjaaGreatDoor
open Go.RowKit Go.WideShapes
def sizeL:List (Int×Int):=[(2,1),(6,1),(3,2),(7,2),(4,4),(8,4),(10,4),(12,4),(15,4),(5,8),(9,8),(11,8),(13,8),(16,8),(14,16),(17,16)]
def fixedV(k:Int):Int:=(sizeL.lookup k).getD 0-bsz k
theorem sizeL_le(k:Int):0≤(sizeL.lookup k).getD 0∧(sizeL.lookup k).getD 0≤16:=by
 unfold sizeL
 simp only [List.lookup]
 repeat' split
 all_goals simp
theorem bsz_le(k:Int):0≤bsz k∧bsz k≤1:=by unfold bsz;split<;>omega
def FixOK:Prop:=∀(k:Int) (w:World),Calls Tryz.prog 135 #[.int .i64 k] w fun e w'=>e=.returned (.int .i64 (fixedV k))∧New w w'
end Go.Proofs.YtfoegolfadhmjaaGreatDoor
namespace Go.Proofs.YtfoegolfadhmjaaGreatDoor
open Go.RowKit Go.WideShapes
theorem hold2{W w' w'':World}{B:Nat}{a b:Value}(h:w'.cell? ⟨B,0,none⟩=some a∧w'.cell? ⟨B,1,none⟩=some b∧New W w')(k:New w' w''):w''.cell? ⟨B,0,none⟩=some a∧w''.cell? ⟨B,1,none⟩=some b∧New W w'':=
 ⟨k.cell h.1 trivial,k.cell h.2.1 trivial,h.2.2.trans k⟩
theorem fin_alloc{w wb X:World}{ok:Nat→Prop}{φ:World→Prop}{kv:Value}(h:X.cell? ⟨w.heap.size,0,none⟩=some kv∧New w X)(hd:Dep ok wb φ)(N:New wb X)(hok:∀k,k<wb.heap.size→ok k→w.heap.size≤k)(hlt:w.heap.size<X.heap.size)(c v:Value):
 (X.alloc (.cells #[c,v] 143)).heap[X.heap.size]? =some (.cells #[c,v] 143 (0,0))∧New w (X.alloc (.cells #[c,v] 143))∧w.heap.size<X.heap.size∧Dep (fun b=>w.heap.size≤b∧b≠X.heap.size) (X.alloc (.cells #[c,v] 143)) φ∧(X.alloc (.cells #[c,v] 143)).cell? ⟨w.heap.size,0,none⟩=some kv:=
 ⟨blk_new X _,h.2.alloc _,hlt,hd.step (N.alloc _).size (fun k hk _=>(N.alloc _).block k hk trivial) fun k hk ho=>⟨hok k hk ho,by have:=N.size;omega⟩,cell_alloc h.1 _⟩
theorem fin_set{w wb X:World}{ok:Nat→Prop}{φ:World→Prop}{p:Nat}{a b kv:Value}(P:X.heap[p]? =some (.cells #[a,b] 143 (0,0)))(h:X.cell? ⟨w.heap.size,0,none⟩=some kv∧New w X)(hd:Dep ok wb φ)(N:New wb X)(hok:∀k,k<wb.heap.size→ok k→w.heap.size≤k∧k≠p)(hlt:w.heap.size<p)(c v:Value):
 ((X.setCell ⟨p,0,none⟩ c).setCell ⟨p,1,none⟩ v).heap[p]? =some (.cells #[c,v] 143 (0,0))∧New w ((X.setCell ⟨p,0,none⟩ c).setCell ⟨p,1,none⟩ v)∧w.heap.size<p∧Dep (fun b=>w.heap.size≤b∧b≠p) ((X.setCell ⟨p,0,none⟩ c).setCell ⟨p,1,none⟩ v) φ∧((X.setCell ⟨p,0,none⟩ c).setCell ⟨p,1,none⟩ v).cell? ⟨w.heap.size,0,none⟩=some kv:=by
 have k:=Keep.setCell (Keep.setCell (N.keep (fun b=>b≠p)) (p:=⟨p,0,none⟩) (.inr (by simp)) c) (p:=⟨p,1,none⟩) (.inr (by simp)) v
 refine⟨by simpa using blk_set (blk_set P 0 c) 1 v,Keep.setCell (Keep.setCell h.2 (.inl (by show w.heap.size≤p;omega)) _) (.inl (by show w.heap.size≤p;omega)) _,hlt,hd.step k.size (fun i hi ho=>k.block i hi (hok i hi ho).2) fun i hi ho=>hok i hi ho,?_⟩
 have k2:=Keep.setCell (Keep.setCell (Keep.refl (fun b=>b≠p) X) (p:=⟨p,0,none⟩) (.inr (by simp)) c) (p:=⟨p,1,none⟩) (.inr (by simp)) v
 exact k2.cell h.1 (show w.heap.size≠p by omega)
theorem holdS{W w':World}{B p i:Nat}{a u:Value}(h:w'.cell? ⟨B,0,none⟩=some a∧New W w')(hne:B≠p)(hp:W.heap.size≤p):(w'.setCell ⟨p,i,none⟩ u).cell? ⟨B,0,none⟩=some a∧New W (w'.setCell ⟨p,i,none⟩ u):=
 ⟨((Keep.refl (fun b=>b≠p) w').setCell (p:=⟨p,i,none⟩) (.inr (by simp)) u).cell h.1 hne,h.2.setCell (.inl hp) u⟩
theorem drewN_size(w:World)(n:Nat):(w.drewN n).heap.size=w.heap.size:=rfl
theorem hold1{W w' w'':World}{B:Nat}{a:Value}(h:w'.cell? ⟨B,0,none⟩=some a∧New W w')(k:New w' w''):w''.cell? ⟨B,0,none⟩=some a∧New W w'':=⟨k.cell h.1 trivial,h.2.trans k⟩
theorem numbered_one(FX:FixOK)(k:Int)(code:UInt8)(s:Nat)(hs:s≤8)(hk:(codedL.lookup k).getD 0=(code.toNat:Int))(hf:fixedV k=s)(h4:(k==4)=false)(h5:(k==5)=false)(h8:(k==8)=false)(h9:(k==9)=false)
 (n:Nat) (hn:n<18446744073709551616) (t:List UInt8) (A1 A2:Option Addr) (a c1 b c2:Nat) (o:Int) (w:World):
 Calls Tryz.prog 85 #[.agg #[.int .i64 k,.int .u64 (n:Int),.string ⟨t.toArray⟩,.slice A1 a c1,.int .i64 o,.slice A2 b c2]] w fun e w'=>∃sl,e=.returned sl∧New w w'∧RowG 143 2 Pcs w' w.heap.size sl [(code,beB s n)]:=by
 have hc1:=fun w=>coded_is k w
 have hc2:=fun w=>FX k w
 have hc3:=fun w=>big_is n s hn hs w
 rw [hk]at hc1
 rw [hf]at hc2
 have H1:=Lib.hid hc1
 have H2:=Lib.hid hc2
 have H3:=Lib.hid hc3
 have q0:=(blk_cell (blk_new w (.cells #[.int .i64 k,.int .u64 (n:Int),.string ⟨t.toArray⟩,.slice A1 a c1,.int .i64 o,.slice A2 b c2] 78)) 0).trans rfl
 have q1:=(blk_cell (blk_new w (.cells #[.int .i64 k,.int .u64 (n:Int),.string ⟨t.toArray⟩,.slice A1 a c1,.int .i64 o,.slice A2 b c2] 78)) 1).trans rfl
 clear hc1 hc2 hc3 hk hf FX
 go_enter Tryz.func85,Tryz.ntmps85
 go_wp2_with fail
 go_quiet (fail)
 go_wp2_with fail
 go_upto_region 2 with fail
 go_cut [5] (fun s5 wc=>∃(p:Nat) (v:Value),s5=.pointer (some ⟨p,0,none⟩)∧wc.heap[p]? =some (.cells #[.int .i64 (code.toNat:Int),v] 143 (0,0))∧New w wc∧w.heap.size<p∧Dep (fun b=>w.heap.size≤b∧b≠p) wc (fun w=>SlB w v (beB s n))∧wc.cell? ⟨w.heap.size,0,none⟩=some (.int .i64 k))
 case first=>
  go_region_held3 (fun w'=>w'.cell? ⟨w.heap.size,0,none⟩=some (.int .i64 k)∧New w w')
   (first | exact sb | exact sc | exact sf | exact hold1 sb ((Keep.refl _ _).alloc _) | exact hold1 sc ((Keep.refl _ _).alloc _) | exact hold1 sf ((Keep.refl _ _).alloc _) | exact holdS (holdS sb (by omega) (by omega)) (by omega) (by omega) | exact holdS (holdS sc (by omega) (by omega)) (by omega) (by omega) | exact holdS (holdS sf (by omega) (by omega)) (by omega) (by omega) | exact hold1 (by assumption) ((Keep.refl _ _).alloc _) | exact⟨q0,(((Keep.refl _ w).alloc _).drewN _).drew⟩)
   (first | (go_at_call 82;refine(H1.out _).mono ?_;rintro e wc ⟨rfl,kc⟩;have sc:=hold1 (by assumption) kc;have zc:=kc.size;(try simp only [World.size_alloc,World.size_drew,drewN_size]at zc);(first | have P:=kc.blk P trivial | have P:=kc.blk (blk_new (w.alloc (.cells #[.int .i64 k,.int .u64 (n:Int),.string ⟨t.toArray⟩,.slice A1 a c1,.int .i64 o,.slice A2 b c2] 78)) (.cells #[.int .i64 0,.slice none 0 0] 143)) trivial | have P:=kc.blk (blk_new _ _) trivial | skip);(try simp only [World.size_alloc,World.size_drew,drewN_size]at P);(try (have P0:=(blk_cell P 0).trans rfl;have P1:=(blk_cell P 1).trans rfl;have F0:=blk_free P 0;have F1:=blk_free P 1))) | (go_at_call 135;refine(H2.out _).mono ?_;rintro e wf ⟨rfl,kf⟩;have sf:=hold1 (by assumption) kf;have zf:=kf.size;(try simp only [World.size_alloc,World.size_drew,drewN_size]at zf);(first | have P:=kf.blk P trivial | have P:=kf.blk (blk_new (w.alloc (.cells #[.int .i64 k,.int .u64 (n:Int),.string ⟨t.toArray⟩,.slice A1 a c1,.int .i64 o,.slice A2 b c2] 78)) (.cells #[.int .i64 0,.slice none 0 0] 143)) trivial | have P:=kf.blk (blk_new _ _) trivial | skip);(try simp only [World.size_alloc,World.size_drew,drewN_size]at P);(try (have P0:=(blk_cell P 0).trans rfl;have P1:=(blk_cell P 1).trans rfl;have F0:=blk_free P 0;have F1:=blk_free P 1))) | (go_at_call 133;refine(H3.out _).mono ?_;rintro e wb ⟨v,rfl,kb,hrb⟩;have sb:=hold1 (by assumption) kb;have zb:=kb.size;(try simp only [World.size_alloc,World.size_drew,drewN_size]at zb);(first | have P:=kb.blk P trivial | have P:=kb.blk (blk_new (w.alloc (.cells #[.int .i64 k,.int .u64 (n:Int),.string ⟨t.toArray⟩,.slice A1 a c1,.int .i64 o,.slice A2 b c2] 78)) (.cells #[.int .i64 0,.slice none 0 0] 143)) trivial | have P:=kb.blk (blk_new _ _) trivial | skip);(try simp only [World.size_alloc,World.size_drew,drewN_size]at P);(try (have P0:=(blk_cell P 0).trans rfl;have P1:=(blk_cell P 1).trans rfl;have F0:=blk_free P 0;have F1:=blk_free P 1));obtain⟨Av,nv,cv,hv⟩:∃A n c,v=.slice A n c:=(let ⟨A,c,e⟩:=hrb.shape;⟨A,_,c,e⟩);subst hv))
  all_goals (go_wp2_with fail;go_meet;first | exact⟨_,_,rfl,fin_alloc sb hrb.out (Keep.refl _ _) (fun k _ h=>by (try simp only [World.size_alloc,World.size_drew,drewN_size]at h);omega) (by omega) _ _⟩ | exact⟨_,_,rfl,fin_set P sb hrb.out (Keep.refl _ _) (fun k hk h=>by (try simp only [World.size_alloc,World.size_drew,drewN_size]at h);omega) (by omega) _ _⟩ | exact⟨_,_,rfl,fin_alloc sc hrb.out kc (fun k _ h=>by (try simp only [World.size_alloc,World.size_drew,drewN_size]at h);omega) (by omega) _ _⟩ | exact⟨_,_,rfl,fin_set P sc hrb.out kc (fun k hk h=>by (try simp only [World.size_alloc,World.size_drew,drewN_size]at h);omega) (by omega) _ _⟩ | exact⟨_,_,rfl,fin_alloc sc hrb.out (kf.trans kc) (fun k _ h=>by (try simp only [World.size_alloc,World.size_drew,drewN_size]at h);omega) (by omega) _ _⟩ | exact⟨_,_,rfl,fin_set P sc hrb.out (kf.trans kc) (fun k hk h=>by (try simp only [World.size_alloc,World.size_drew,drewN_size]at h);omega) (by omega) _ _⟩)
 case rest=>
  obtain⟨p,v,rfl,hp,kc,hpl,hd,hkc⟩:=hcut
  obtain⟨Av,nv,cv,hv⟩:∃A n c,v=.slice A n c:=(let ⟨A,c,e,_⟩:=hd.here;⟨A,_,c,e⟩)
  subst hv
  have p0:=(blk_cell hp 0).trans rfl
  have p1:=(blk_cell hp 1).trans rfl
  have hkc2:=cell_alloc hkc (.cells #[.int .i64 (code.toNat:Int),.slice Av nv cv] 143)
  have kN:=(Keep.refl (fun _=>True) wc).alloc (.cells #[.int .i64 (code.toNat:Int),.slice Av nv cv] 143)
  have hsz:=kc.size
  have HD:=Lib.hid hd
  clear hp hd H1 H2 H3
  go_wp2
  go_ret
  refine⟨_,rfl,kc.trans kN,[.int .i64 (code.toNat:Int),.slice Av nv cv],⟨rfl,.inr ⟨wc.heap.size,1,#[.int .i64 (code.toNat:Int),.slice Av nv cv],rfl,hsz,blk_new wc _,Nat.le_refl _,by unfold maxLen;omega,rfl,rfl⟩⟩,?_⟩
  exact(HD.out.step kN.size (fun i hi _=>kN.block i hi trivial) (fun b hb hok=>⟨hok.1,fun e=>by simp [Value.ownBlock]at e;omega⟩)).imp fun w h=>Pcs.cons h.toC .nil
end Go.Proofs.YtfoegolfadhmjaaGreatDoor
namespace Go.Proofs.YtfoegolfadhmjaaGreatDoor
open Go.RowKit Go.WideShapes
def mapSet(X:World)(m:Nat)(es:Array MapEntry)(c:Nat):World:={ X with heap:=X.heap.setIfInBounds m (.map es c) }
def ent(k v:Int)(b:Nat):MapEntry:={ key:=.int .i64 k,val:=.int .i64 v,born:=b }
theorem upd_gen(X:World)(m:Nat)(es:Array MapEntry)(c:Nat)(k v:Int)(h:X.heap[m]? =some (.map es c))(hk:Instr.findNow (.int .i64) (.int .i64 k) es.toList 0=some none):
 (Instr.mapUpdate 294 (.map (some m)) (.int .i64 k) (.int .i64 v)).run Tryz.prog X=.ok () (mapSet X m (es.push (ent k v c)) (c+1)):=by
 have hf:(Instr.findKey 3 (.int .i64 k) es.toList).run Tryz.prog X=.ok none X:=by
  unfold Instr.findKey
  simp only [Sem.run_bind,run_underlying Tryz.underlying3,Result.andThen_ok,hk]
  rfl
 simp only [Instr.mapUpdate,Sem.run_bind,run_underlying Tryz.underlying294,Result.andThen_ok,getObj,Sem.run,h,check_int,hf,setObj]
 rfl
theorem look_gen(X:World)(m:Nat)(es:Array MapEntry)(c:Nat)(k:Int)(j:Nat)(v:Int)(h:X.heap[m]? =some (.map es c))(hk:Instr.findNow (.int .i64) (.int .i64 k) es.toList 0=some (some (j,.int .i64 v))):
 (Instr.lookup 294 (.map (some m)) (.int .i64 k) false).run Tryz.prog X=.ok (.int .i64 v) X:=by
 simp only [Instr.lookup,Sem.run_bind,run_underlying Tryz.underlying294,Result.andThen_ok,getObj,h,Sem.run_pure]
 simp only [Sem.run,h,Result.andThen_ok,Sem.run_pure,check_int,Sem.run_bind,Instr.findKey,run_underlying Tryz.underlying3,hk]
 rfl
theorem find_nil(k:Int):Instr.findNow (.int .i64) (.int .i64 k) [] 0=some none:=rfl
theorem find_one(k a x:Int)(b:Nat)(h:k≠a):Instr.findNow (.int .i64) (.int .i64 k) [ent a x b] 0=some none:=by
 have hb:(k==a)=false:=by simpa using h
 simp [Instr.findNow,ent,Instr.sameNow,hb]
theorem find_fst(k x:Int)(b:Nat)(r:List MapEntry):Instr.findNow (.int .i64) (.int .i64 k) (ent k x b::r) 0=some (some (0,.int .i64 x)):=by
 simp [Instr.findNow,ent,Instr.sameNow]
theorem find_snd(k x a y:Int)(b b':Nat)(h:k≠a):Instr.findNow (.int .i64) (.int .i64 k) [ent a y b',ent k x b] 0=some (some (1,.int .i64 x)):=by
 have hb:(k==a)=false:=by simpa using h
 simp [Instr.findNow,ent,Instr.sameNow,hb]
theorem mapSet_get{X:World}{m:Nat}(h:m<X.heap.size)(es:Array MapEntry)(c:Nat):(mapSet X m es c).heap[m]? =some (.map es c):=by simp [mapSet,h]
theorem mapSet_two(X:World)(m:Nat)(es es':Array MapEntry)(c c':Nat):mapSet (mapSet X m es c) m es' c'=mapSet X m es' c':=by simp [mapSet]
theorem mapSet_size(X:World)(m:Nat)(es:Array MapEntry)(c:Nat):(mapSet X m es c).heap.size=X.heap.size:=by simp [mapSet]
theorem mapSet_keep{W X:World}(h:New W X){m:Nat}(hm:W.heap.size≤m)(es:Array MapEntry)(c:Nat):New W (mapSet X m es c):=
 ⟨h.os,h.tape,h.output,by rw [mapSet_size];exact h.size,fun k hk _=>by
  have:(mapSet X m es c).heap[k]? =X.heap[k]? :=by simp [mapSet,Array.getElem?_setIfInBounds_ne (show m≠k by omega)]
  rw [this]
  exact h.block k hk trivial⟩
theorem mapSet_far(X:World)(m:Nat)(es:Array MapEntry)(c:Nat):Keep (fun b=>b≠m) X (mapSet X m es c):=
 ⟨rfl,rfl,rfl,by rw [mapSet_size];exact Nat.le_refl _,fun k hk hne=>by simp [mapSet,Array.getElem?_setIfInBounds_ne (Ne.symm hne)]⟩
theorem push_set(a:Array Obj)(x y:Obj):(a.push x).setIfInBounds a.size y=a.push y:=by
 apply Array.ext_getElem?
 intro i
 rw [Array.getElem?_setIfInBounds]
 by_cases h:a.size=i
 ·subst h
  simp
 ·rw [if_neg h,Array.getElem?_push,Array.getElem?_push,if_neg (fun e=>h e.symm),if_neg (fun e=>h e.symm)]
theorem mapSet_alloc(X:World)(es es':Array MapEntry)(c c':Nat):mapSet (X.alloc (.map es c)) X.heap.size es' c'=X.alloc (.map es' c'):=by
 show({ X.alloc (.map es c)with heap:=(X.heap.push (.map es c)).setIfInBounds X.heap.size (.map es' c') }:World)=_
 rw [push_set]
 rfl
theorem mapSet_alloc_drew(X:World)(es es':Array MapEntry)(c c':Nat):mapSet (X.alloc (.map es c)).drew X.heap.size es' c'=(X.alloc (.map es' c')).drew:=by
 show({ (X.alloc (.map es c)).drew with heap:=(X.heap.push (.map es c)).setIfInBounds X.heap.size (.map es' c') }:World)=_
 rw [push_set]
 rfl
theorem ins_new(X:World)(k v:Int):(Instr.mapUpdate 294 (.map (some X.heap.size)) (.int .i64 k) (.int .i64 v)).run Tryz.prog (X.alloc (.map #[] 0))=.ok () (X.alloc (.map #[ent k v 0] 1)):=by
 rw [upd_gen _ _ #[] 0 k v (blk_new X _) rfl,mapSet_alloc]
 rfl
theorem ins_new_drew(X:World)(k v:Int):(Instr.mapUpdate 294 (.map (some X.heap.size)) (.int .i64 k) (.int .i64 v)).run Tryz.prog (X.alloc (.map #[] 0)).drew=.ok () (X.alloc (.map #[ent k v 0] 1)).drew:=by
 rw [upd_gen (X.alloc (.map #[] 0)).drew _ #[] 0 k v (blk_new X _) rfl,mapSet_alloc_drew]
 rfl
theorem ins_two(X:World)(k v a x:Int)(h:k≠a):(Instr.mapUpdate 294 (.map (some X.heap.size)) (.int .i64 k) (.int .i64 v)).run Tryz.prog (X.alloc (.map #[ent a x 0] 1))=.ok () (X.alloc (.map #[ent a x 0,ent k v 1] 2)):=by
 rw [upd_gen _ _ _ 1 k v (blk_new X _) (find_one k a x 0 h),mapSet_alloc]
 rfl
theorem ins_two_drew(X:World)(k v a x:Int)(h:k≠a):(Instr.mapUpdate 294 (.map (some X.heap.size)) (.int .i64 k) (.int .i64 v)).run Tryz.prog (X.alloc (.map #[ent a x 0] 1)).drew=.ok () (X.alloc (.map #[ent a x 0,ent k v 1] 2)).drew:=by
 rw [upd_gen (X.alloc (.map #[ent a x 0] 1)).drew _ _ 1 k v (blk_new X _) (find_one k a x 0 h),mapSet_alloc_drew]
 rfl
theorem ins_new_at(X:World)(m:Nat)(h:X.heap[m]? =some (.map #[] 0))(k v:Int):(Instr.mapUpdate 294 (.map (some m)) (.int .i64 k) (.int .i64 v)).run Tryz.prog X=.ok () (mapSet X m #[ent k v 0] 1):=
 upd_gen X m #[] 0 k v h rfl
theorem ins_two_at(X:World)(m:Nat)(a x:Int)(h:X.heap[m]? =some (.map #[ent a x 0] 1))(k v:Int)(hk:k≠a):(Instr.mapUpdate 294 (.map (some m)) (.int .i64 k) (.int .i64 v)).run Tryz.prog X=.ok () (mapSet X m #[ent a x 0,ent k v 1] 2):=
 upd_gen X m #[ent a x 0] 1 k v h (find_one k a x 0 hk)
theorem ins_two_set(X:World)(m:Nat)(hm:m<X.heap.size)(a x:Int)(k v:Int)(hk:k≠a):(Instr.mapUpdate 294 (.map (some m)) (.int .i64 k) (.int .i64 v)).run Tryz.prog (mapSet X m #[ent a x 0] 1)=.ok () (mapSet X m #[ent a x 0,ent k v 1] 2):=by
 rw [upd_gen _ m #[ent a x 0] 1 k v (mapSet_get hm _ _) (find_one k a x 0 hk),mapSet_two]
 rfl
end Go.Proofs.YtfoegolfadhmjaaGreatDoor
namespace Go.Proofs.YtfoegolfadhmjaaGreatDoor
open Go.RowKit Go.WideShapes
def Low(ops:Array Oper):Bool:=(List.range ops.size).all fun i=>((ops[i]?).map fun o=>o.after.all fun e=>decide (e.on<i)).getD true
theorem all_listed{md:Region.Mode}{ops:Array Oper}{L:Array Bool}(hs:L.size=ops.size)(low:Low ops=true)(hr:Region.ready md ops L=[]):∀n i,i<n→i<ops.size→L.getD i false=true:=by
 intro n
 induction n with
 | zero=>intro i h;omega
 | succ n ih=>
   intro i hi hlt
   rcases Nat.lt_or_ge i n with h | h
   ·exact ih i h hlt
   obtain rfl:i=n:=by omega
   cases hL:L.getD i false with
   | true=>rfl
   | false=>
     exfalso
     have hmem:i∈Region.ready md ops L:=by
      unfold Region.ready
      rw [List.mem_filter]
      refine⟨List.mem_range.2 hlt,?_⟩
      have h1:L.getD i true=false:=by
       have:i<L.size:=by omega
       simp [Array.getD,this]at hL ⊢
       exact hL
      rw [h1]
      have hl:=List.all_eq_true.1 low i (List.mem_range.2 hlt)
      rw [Array.getElem?_eq_getElem hlt]at hl ⊢
      simp only [Option.map_some,Option.getD_some,Bool.not_false,Bool.true_and]at hl ⊢
      rw [Array.all_eq_true']at hl ⊢
      intro e he
      have:=of_decide_eq_true (hl e he)
      rw [ih e.on this (by omega)]
      simp
     rw [hr]at hmem
     cases hmem
theorem getD_set_self{L:Array Bool}{i:Nat}(h:i<L.size):(L.setIfInBounds i true).getD i false=true:=by simp [Array.getD,h]
theorem getD_set_ne{L:Array Bool}{i j:Nat}(h:i≠j):(L.setIfInBounds i true).getD j false=L.getD j false:=by
 simp only [Array.getD_eq_getD_getElem?,Array.getElem?_setIfInBounds_ne h]
theorem any_inv{P:Program}{md:Region.Mode}{ops:Array Oper}{Q:Exit→Act→World→Prop}(I:Array Bool→Act→World→Prop)(low:Low ops=true)
 (step:∀i o L a w,ops[i]? =some o→(∀e∈o.after,Region.binds md e=true→L.getD e.on false=true)→L.getD i false=false→L.size=ops.size→I L a w→wpOp P ops Q i (I (L.setIfInBounds i true)) a w)
 (fin:∀L a w,(∀i,i<ops.size→L.getD i false=true)→I L a w→Q .normal a w):
 ∀fuel L a w,L.size=ops.size→L.count false≤fuel→I L a w→wpAny P md ops Q fuel L a w:=by
 intro fuel
 induction fuel with
 | zero=>
   intro L a w hs hc hI
   have hr:Region.ready md ops L=[]:=by
    unfold Region.ready
    rw [List.filter_eq_nil_iff]
    intro i hi
    have hi':i<L.size:=by rw [hs];exact List.mem_range.1 hi
    have h0:¬false∈L:=fun hm=>by have:=Array.count_pos_iff.2 hm;omega
    have:L.getD i true=true:=by
     simp only [Array.getD,hi',dif_pos]
     cases h:L[i]with
     | true=>exact h
     | false=>exact absurd (h▸Array.getElem_mem hi') h0
    simp [this]
   exact⟨hr,fin L a w (fun i hi=>all_listed hs low hr (i+1) i (by omega) hi) hI⟩
 | succ fuel ih=>
   intro L a w hs hc hI
   refine⟨fun hr=>fin L a w (fun i hi=>all_listed hs low hr (i+1) i (by omega) hi) hI,fun i hi=>?_⟩
   unfold Region.ready at hi
   rw [List.mem_filter]at hi
   obtain⟨h1,h2⟩:=hi
   have hlt:i<ops.size:=List.mem_range.1 h1
   rw [Array.getElem?_eq_getElem hlt]at h2
   simp only [Option.map_some,Option.getD_some,Bool.and_eq_true,Bool.not_eq_true']at h2
   obtain⟨h2,h3⟩:=h2
   have hL:L[i]'(by omega)=false:=by
    have:i<L.size:=by omega
    simpa [Array.getD,this]using h2
   have hLf:L.getD i false=false:=by
    have:i<L.size:=by omega
    simp [Array.getD,this,hL]
   refine wpOp_mono (fun a w hI'=>ih _ a w (by simpa using hs) ?_ hI') (step i ops[i] L a w (Array.getElem?_eq_getElem hlt) (fun e he hb=>by
    have:=Array.all_eq_true'.1 h3 e he
    simpa [hb]using this) hLf hs hI)
   rw [Array.setIfInBounds,dif_pos (by omega:i<L.size),Array.count_set]
   rw [hL]
   simp
   omega
theorem wpOp_in{P:Program}{ops:Array Oper}{Q:Exit→Act→World→Prop}{i:Nat}{o:Oper}{K:Act→World→Prop}{a:Act}{w:World}(ho:ops[i]? =some o)(hg:o.guard=none)(h:o.wp P a w K Q):wpOp P ops Q i K a w:=by
 unfold wpOp
 rw [ho]
 simp only [Region.wanted,hg,if_true]
 exact .inl h
theorem region_inv{P:Program}{id:Nat}{ops:Array Oper}{Q:Exit→Act→World→Prop}{a:Act}{w:World}(hm:P.follows .mixedOrders=true)(I:Array Bool→Act→World→Prop)(low:Low ops=true)
 (start:I (Array.replicate ops.size false) a w.drew)
 (step:∀i o L a w,ops[i]? =some o→(∀e∈o.after,Region.binds .any e=true→L.getD e.on false=true)→L.getD i false=false→L.size=ops.size→I L a w→wpOp P ops Q i (I (L.setIfInBounds i true)) a w)
 (fin:∀L a w,(∀i,i<ops.size→L.getD i false=true)→I L a w→Q .normal a w):(Code.region id ops true).wp P Q a w:=
 wp_region_any hm (any_inv I low step fin _ _ _ _ (by simp) (by simp [Array.count_replicate]) start)
theorem eval_put_self{a:Act}{d:Nat}{v:Value}(h:d<a.tmps.size):(a.put (some d) v).eval (.tmp d)=v:=by simp [Act.put,Act.eval,Array.getD,h]
theorem eval_put_ne{a:Act}{d t:Nat}{v:Value}(h:d≠t):(a.put (some d) v).eval (.tmp t)=a.eval (.tmp t):=by
 simp only [Act.put,Act.eval,Array.getD_eq_getD_getElem?,Array.getElem?_setIfInBounds_ne h]
theorem put_size(a:Act)(d:Option Nat)(v:Value):(a.put d v).tmps.size=a.tmps.size:=by cases d<;>simp [Act.put]
theorem put_defers'(a:Act)(d:Option Nat)(v:Value):(a.put d v).defers=a.defers:=by cases d<;>rfl
theorem getD_set{L:Array Bool}{i j:Nat}(h:i<L.size):(L.setIfInBounds i true).getD j false=if i=j then true else L.getD j false:=by
 by_cases e:i=j
 ·subst e;rw [if_pos rfl,getD_set_self h]
 ·rw [if_neg e,getD_set_ne e]
theorem eval_put{a:Act}{d t:Nat}{v:Value}(h:d<a.tmps.size):(a.put (some d) v).eval (.tmp t)=if d=t then v else a.eval (.tmp t):=by
 by_cases e:d=t
 ·subst e;rw [if_pos rfl,eval_put_self h]
 ·rw [if_neg e,eval_put_ne e]
def Slots(T:List (Nat×Nat×Value))(L:Array Bool)(a:Act):Prop:=∀q∈T,L.getD q.1 false=true→a.eval (.tmp q.2.1)=q.2.2
theorem Slots.put{T:List (Nat×Nat×Value)}{L:Array Bool}{a:Act}(h:Slots T L a){i d:Nat}{v:Value}(hi:i<L.size)(hd:d<a.tmps.size)(hu:∀q∈T,(q.1=i→q.2=(d,v))∧(q.2.1=d→q.1=i)):Slots T (L.setIfInBounds i true) (a.put (some d) v):=by
 intro q hq hL
 rw [eval_put hd]
 obtain⟨h1,h2⟩:=hu q hq
 by_cases e:q.2.1=d
 ·rw [if_pos e.symm]
  have:=h1 (h2 e)
  rw [this]
 ·rw [if_neg (fun h=>e h.symm)]
  rw [getD_set hi]at hL
  by_cases ei:i=q.1
  ·exact absurd (by rw [h1 ei.symm]) e
  ·rw [if_neg ei]at hL
   exact h q hq hL
theorem Slots.none{T:List (Nat×Nat×Value)}{L:Array Bool}{a:Act}(h:Slots T L a){i:Nat}{v:Value}(hi:i<L.size)(hu:∀q∈T,q.1≠i):Slots T (L.setIfInBounds i true) (a.put none v):=by
 intro q hq hL
 rw [getD_set_ne (fun e=>hu q hq e.symm)]at hL
 exact h q hq hL
def fixT(k:Int):List (Nat×Nat×Value):=[(18,5,.int .i64 k),(19,6,.int .i64 ((sizeL.lookup k).getD 0)),(20,7,.int .i64 k),(21,8,.int .i64 (bsz k)),(22,9,.int .i64 (fixedV k)),(23,2,.int .i64 (fixedV k))]
structure FixI(w0:World)(k:Int)(L:Array Bool)(a:Act)(w:World):Prop where
 df:a.defers=[]
 sz:a.tmps.size=10
 t0:a.eval (.tmp 0)=.int .i64 k
 nw:New w0 w
 mp:L.getD 0 false=true→∃m l,a.eval (.tmp 3)=.map (some m)∧w0.heap.size≤m∧IntMap w m l∧(∀p,p∈l↔∃j,sizeL[j]? =some p∧L.getD (j+1) false=true)∧(L.getD 17 false=true→a.eval (.tmp 4)=.map (some m))
 cl:∀i,1≤i→i≤17→L.getD i false=true→L.getD 0 false=true
 c17:L.getD 17 false=true→∀j,j≤16→L.getD j false=true
 sl:Slots (fixT k) L a
theorem IntMap.keep{w w':World}{m:Nat}{l:List (Int×Int)}(h:IntMap w m l)(k:New w w'):IntMap w' m l:=let ⟨es,c,h1,h2⟩:=h;⟨es,c,k.blk h1 trivial,h2⟩
theorem FixI.calm{w0 w w':World}{k:Int}{L:Array Bool}{a:Act}(h:FixI w0 k L a w){i d:Nat}{v:Value}(hs:L.size=24)(hn:New w w')(hi:18≤i)(hi':i<24)(hd:d<10)(h0:d≠0)(h3:d≠3)(h4:d≠4)(hu:∀q∈fixT k,(q.1=i→q.2=(d,v))∧(q.2.1=d→q.1=i)):FixI w0 k (L.setIfInBounds i true) (a.put (some d) v) w':=by
 refine⟨h.df,by rw [put_size];exact h.sz,by rw [eval_put_ne h0];exact h.t0,h.nw.trans hn,fun hL=>?_,fun j h1 h2 hL=>?_,fun hL j hj=>?_,h.sl.put (by omega) (by rw [h.sz];exact hd) hu⟩
 ·rw [getD_set_ne (by omega)]at hL
  obtain⟨m,l,e1,e2,e3,e4,e5⟩:=h.mp hL
  refine⟨m,l,by rw [eval_put_ne h3];exact e1,e2,e3.keep hn,fun p=>?_,fun hL=>?_⟩
  ·rw [e4]
   constructor
   ·rintro⟨j,hj,hL⟩
    have:j<16:=by have:=(List.getElem?_eq_some_iff.1 hj).1;simpa [sizeL]using this
    exact⟨j,hj,by rw [getD_set_ne (by omega)];exact hL⟩
   ·rintro⟨j,hj,hL⟩
    have:j<16:=by have:=(List.getElem?_eq_some_iff.1 hj).1;simpa [sizeL]using this
    exact⟨j,hj,by rw [getD_set_ne (by omega)]at hL;exact hL⟩
  ·rw [eval_put_ne h4]
   exact e5 (by rw [getD_set_ne (by omega)]at hL;exact hL)
 ·rw [getD_set_ne (by omega)]at hL ⊢
  exact h.cl j h1 h2 hL
 ·rw [getD_set_ne (by omega)]at hL ⊢
  exact h.c17 hL j hj
theorem FixI.make{w0 w:World}{k:Int}{L:Array Bool}{a:Act}(h:FixI w0 k L a w)(hs:L.size=24)(h0:L.getD 0 false=false):FixI w0 k (L.setIfInBounds 0 true) (a.put (some 3) (.map (some w.heap.size))) (w.alloc (.map #[] 0)):=by
 have hno:∀i,1≤i→i≤17→L.getD i false=false:=fun i h1 h2=>by
  cases e:L.getD i false with
  | false=>rfl
  | true=>rw [h.cl i h1 h2 e]at h0;cases h0
 refine⟨h.df,by rw [put_size];exact h.sz,by rw [eval_put_ne (by decide)];exact h.t0,h.nw.alloc _,fun hL=>?_,fun j h1 h2 hL=>?_,fun hL j hj=>?_,h.sl.put (by omega) (by rw [h.sz];decide) ?_⟩
 ·refine⟨_,[],eval_put_self (by rw [h.sz];decide),h.nw.size,IntMap.new w,fun p=>?_,fun hL=>?_⟩
  ·constructor
   ·intro h;cases h
   ·rintro⟨j,hj,hL⟩
    have:j<16:=by have:=(List.getElem?_eq_some_iff.1 hj).1;simpa [sizeL]using this
    rw [getD_set_ne (by omega),hno _ (by omega) (by omega)]at hL
    cases hL
  ·rw [getD_set_ne (by omega),hno _ (by omega) (by omega)]at hL
   cases hL
 ·exact getD_set_self (by omega)
 ·rw [getD_set_ne (by omega),hno _ (by omega) (by omega)]at hL
  cases hL
 ·unfold fixT
  simp
theorem sizeL_key{i j:Nat}{p q:Int×Int}(hi:sizeL[i]? =some p)(hj:sizeL[j]? =some q)(h:p.1=q.1):i=j:=by
 have h1:i<16:=by have:=(List.getElem?_eq_some_iff.1 hi).1;simpa [sizeL]using this
 have h2:j<16:=by have:=(List.getElem?_eq_some_iff.1 hj).1;simpa [sizeL]using this
 have key:∀i:Fin 16,∀j:Fin 16,(sizeL[i.1]?).map (·.1)=(sizeL[j.1]?).map (·.1)→i=j:=by decide
 have:=key ⟨i,h1⟩ ⟨j,h2⟩ (by rw [hi,hj];simp [h])
 exact congrArg Fin.val this
theorem lookup_none_of{l:List (Int×Int)}{k:Int}(h:∀p∈l,p.1≠k):l.lookup k=none:=by
 induction l with
 | nil=>rfl
 | cons q l ih=>
   have hb:(k==q.1)=false:=by simpa using fun e=>h q (List.mem_cons_self) e.symm
   obtain⟨x,y⟩:=q
   simp only [List.lookup,hb]
   exact ih fun p hp=>h p (List.mem_cons_of_mem _ hp)
theorem lookup_mem{l:List (Int×Int)}{k v:Int}(h:l.lookup k=some v):(k,v)∈l:=by
 induction l with
 | nil=>cases h
 | cons q l ih=>
   obtain⟨x,y⟩:=q
   by_cases e:k=x
   ·subst e
    simp [List.lookup]at h
    subst h
    exact List.mem_cons_self
   ·have hb:(k==x)=false:=by simpa using e
    simp only [List.lookup,hb]at h
    exact List.mem_cons_of_mem _ (ih h)
theorem lookup_same{l l':List (Int×Int)}(hm:∀p,p∈l↔p∈l')(hf:∀p∈l',∀q∈l',p.1=q.1→p=q)(k:Int):l.lookup k=l'.lookup k:=by
 cases h:l.lookup k with
 | none=>
   symm
   refine lookup_none_of fun p hp e=>?_
   have hp':=(hm p).2 hp
   clear hm hf
   induction l with
   | nil=>cases hp'
   | cons q l ih=>
     obtain⟨x,y⟩:=q
     by_cases e':k=x
     ·subst e';simp [List.lookup]at h
     ·have hb:(k==x)=false:=by simpa using e'
      simp only [List.lookup,hb]at h
      rcases List.mem_cons.1 hp' with rfl | h'
      ·exact e' e.symm
      ·exact ih h h'
 | some v=>
   have h1:=(hm _).1 (lookup_mem h)
   cases h':l'.lookup k with
   | some v'=>
     have:=hf _ h1 _ (lookup_mem h') rfl
     simp at this
     rw [this]
   | none=>
     exfalso
     clear hm hf h
     induction l' with
     | nil=>cases h1
     | cons q l ih=>
       obtain⟨x,y⟩:=q
       by_cases e':k=x
       ·subst e';simp [List.lookup]at h'
       ·have hb:(k==x)=false:=by simpa using e'
        simp only [List.lookup,hb]at h'
        rcases List.mem_cons.1 h1 with h | h
        ·exact e' (congrArg Prod.fst h)
        ·exact ih h h'
theorem FixI.ins{w0 w:World}{k:Int}{L:Array Bool}{a:Act}(h:FixI w0 k L a w)(hs:L.size=24){j:Nat}{kk vv:Int}(hj:sizeL[j]? =some (kk,vv))(h0:L.getD 0 false=true)(hL:L.getD (j+1) false=false):
 ∃m w',a.eval (.tmp 3)=.map (some m)∧(Instr.mapUpdate 294 (.map (some m)) (.int .i64 kk) (.int .i64 vv)).run Tryz.prog w=.ok () w'∧FixI w0 k (L.setIfInBounds (j+1) true) (a.put none undef) w':=by
 obtain⟨m,l,e1,e2,e3,e4,e5⟩:=h.mp h0
 have hj16:j<16:=by have:=(List.getElem?_eq_some_iff.1 hj).1;simpa [sizeL]using this
 have hno:l.lookup kk=none:=lookup_none_of fun p hp e=>by
  obtain⟨i,hi,hi'⟩:=(e4 p).1 hp
  have:=sizeL_key hi hj e
  subst this
  rw [hL]at hi'
  cases hi'
 obtain⟨w',h1,h2,h3⟩:=e3.upd kk vv hno
 refine⟨m,w',e1,h1,h.df,h.sz,h.t0,h.nw.then h3 (fun i hi _=>by show i≠m;omega),fun _=>⟨m,_,e1,e2,h2,fun p=>?_,fun hL'=>?_⟩,fun i h1 h2 _=>?_,fun hL' i hi=>?_,h.sl.none (by omega) ?_⟩
 ·rw [List.mem_append,e4]
  constructor
  ·rintro(⟨i,hi,hi'⟩ | hp)
   ·refine⟨i,hi,?_⟩
    rw [getD_set (by omega)]
    split<;>first | rfl | exact hi'
   ·rw [List.mem_singleton]at hp
    subst hp
    exact⟨j,hj,getD_set_self (by omega)⟩
  ·rintro⟨i,hi,hi'⟩
   by_cases e:j=i
   ·subst e
    rw [hj]at hi
    exact .inr (by simp at hi;simp [hi])
   ·rw [getD_set_ne (by omega)]at hi'
    exact .inl ⟨i,hi,hi'⟩
 ·rw [getD_set_ne (by omega)]at hL'
  exact e5 hL'
 ·rw [getD_set_ne (by omega)]
  exact h0
 ·rw [getD_set_ne (by omega)]at hL'
  have:=h.c17 hL' (j+1) (by omega)
  rw [this]at hL
  cases hL
 ·unfold fixT
  simp
  omega
theorem FixI.move{w0 w:World}{k:Int}{L:Array Bool}{a:Act}(h:FixI w0 k L a w)(hs:L.size=24)(hall:∀j,j≤16→L.getD j false=true):FixI w0 k (L.setIfInBounds 17 true) (a.put (some 4) (a.eval (.tmp 3))) w:=by
 obtain⟨m,l,e1,e2,e3,e4,e5⟩:=h.mp (hall 0 (by decide))
 refine⟨h.df,by rw [put_size];exact h.sz,by rw [eval_put_ne (by decide)];exact h.t0,h.nw,fun _=>⟨m,l,by rw [eval_put_ne (by decide)];exact e1,e2,e3,fun p=>?_,fun _=>by rw [eval_put_self (by rw [h.sz];decide)];exact e1⟩,fun i h1 h2 _=>by rw [getD_set_ne (by decide)];exact hall 0 (by decide),fun _ j hj=>by rw [getD_set_ne (by omega)];exact hall j hj,h.sl.put (by omega) (by rw [h.sz];decide) (by unfold fixT;simp)⟩
 rw [e4]
 constructor
 ·rintro⟨j,hj,hL⟩
  have:j<16:=by have:=(List.getElem?_eq_some_iff.1 hj).1;simpa [sizeL]using this
  exact⟨j,hj,by rw [getD_set_ne (by omega)];exact hL⟩
 ·rintro⟨j,hj,hL⟩
  have:j<16:=by have:=(List.getElem?_eq_some_iff.1 hj).1;simpa [sizeL]using this
  exact⟨j,hj,by rw [getD_set_ne (by omega)]at hL;exact hL⟩
theorem FixI.look{w0 w:World}{k:Int}{L:Array Bool}{a:Act}(h:FixI w0 k L a w)(h17:L.getD 17 false=true):∃m,a.eval (.tmp 4)=.map (some m)∧(Instr.lookup 294 (.map (some m)) (.int .i64 k) false).run Tryz.prog w=.ok (.int .i64 ((sizeL.lookup k).getD 0)) w:=by
 obtain⟨m,l,e1,e2,e3,e4,e5⟩:=h.mp (h.c17 h17 0 (by decide))
 refine⟨m,e5 h17,?_⟩
 rw [e3.look k,lookup_same (l':=sizeL) (fun p=>?_) (by decide) k]
 rw [e4]
 constructor
 ·rintro⟨j,hj,_⟩
  exact List.mem_iff_getElem?.2 ⟨j,hj⟩
 ·intro hp
  obtain⟨j,hj⟩:=List.mem_iff_getElem?.1 hp
  have:j<16:=by have:=(List.getElem?_eq_some_iff.1 hj).1;simpa [sizeL]using this
  exact⟨j,hj,h.c17 h17 _ (by omega)⟩
end Go.Proofs.YtfoegolfadhmjaaGreatDoor
namespace Go.Proofs.YtfoegolfadhmjaaGreatDoor
open Go.RowKit Go.WideShapes
theorem rep_off(n i:Nat):(Array.replicate n false).getD i false=false:=by
 simp only [Array.getD_eq_getD_getElem?,Array.getElem?_replicate]
 split<;>rfl
theorem fixed_is:FixOK:=by
 intro k w
 have hb:=fun w=>boolSize_is k w
 go_enter Tryz.func135,Tryz.ntmps135
 go_wp2
 refine region_inv (by kernel_rfl) (FixI w k) ?low ?start ?step ?fin
 case low=>kernel_rfl
 case start=>
  refine⟨rfl,rfl,rfl,(Keep.refl _ w).drew,fun h=>?_,fun i _ _ h=>?_,fun h=>?_,fun q _ h=>?_⟩
  all_goals (rw [rep_off]at h;cases h)
 case fin=>
  rename_i hK
  intro L a w' hall hI
  refine hK _ _ (wp_ret ?_)
  have h2:=hI.sl (23,2,.int .i64 (fixedV k)) (by unfold fixT;simp) (hall 23 (by simp))
  have hn:=hI.nw
  have hdf:=hI.df
  exact bodyPost_ret (results_tmp rfl _ _ _) hdf ⟨congrArg Ending.returned h2,hn⟩
 case step=>
  intro i o L a w' ho hd hL hs hI
  have hi:=(Array.getElem?_eq_some_iff.1 ho).1
  simp only [List.size_toArray,List.length_cons,List.length_nil]at hi hs
  have hi':i=0∨i=1∨i=2∨i=3∨i=4∨i=5∨i=6∨i=7∨i=8∨i=9∨i=10∨i=11∨i=12∨i=13∨i=14∨i=15∨i=16∨i=17∨i=18∨i=19∨i=20∨i=21∨i=22∨i=23:=by omega
  clear hi
  rcases hi' with rfl | rfl | rfl | rfl | rfl | rfl | rfl | rfl | rfl | rfl | rfl | rfl | rfl | rfl | rfl | rfl | rfl | rfl | rfl | rfl | rfl | rfl | rfl | rfl
  ·have ho':=ho
   simp only [List.getElem?_toArray,List.getElem?_cons_zero,List.getElem?_cons_succ,Option.some.injEq]at ho
   refine wpOp_in ho' (by rw [←ho]) ?_
   subst ho
   clear ho'
   simp only [Oper.wp,execOp,Sem.run_bind,make294,Result.andThen_ok,Sem.run_pure,Oper.upon_value]
   exact hI.make hs hL
  ·have ho':=ho
   simp only [List.getElem?_toArray,List.getElem?_cons_zero,List.getElem?_cons_succ,Option.some.injEq]at ho
   refine wpOp_in ho' (by rw [←ho]) ?_
   subst ho
   clear ho'
   obtain⟨m,w2,e1,e2,e3⟩:=hI.ins hs (j:=0) (kk:=2) (vv:=1) rfl (hd ⟨0,.data⟩ (by simp) rfl) hL
   have e4:a.eval (.const (.int .i64 2))=.int .i64 2:=rfl
   have e5:a.eval (.const (.int .i64 1))=.int .i64 1:=rfl
   simp only [Oper.wp,execOp,Sem.run_bind,e1,e4,e5,e2,Result.andThen_ok,Sem.run_pure,Oper.upon_skip]
   exact e3
  ·have ho':=ho
   simp only [List.getElem?_toArray,List.getElem?_cons_zero,List.getElem?_cons_succ,Option.some.injEq]at ho
   refine wpOp_in ho' (by rw [←ho]) ?_
   subst ho
   clear ho'
   obtain⟨m,w2,e1,e2,e3⟩:=hI.ins hs (j:=1) (kk:=6) (vv:=1) rfl (hd ⟨0,.data⟩ (by simp) rfl) hL
   have e4:a.eval (.const (.int .i64 6))=.int .i64 6:=rfl
   have e5:a.eval (.const (.int .i64 1))=.int .i64 1:=rfl
   simp only [Oper.wp,execOp,Sem.run_bind,e1,e4,e5,e2,Result.andThen_ok,Sem.run_pure,Oper.upon_skip]
   exact e3
  ·have ho':=ho
   simp only [List.getElem?_toArray,List.getElem?_cons_zero,List.getElem?_cons_succ,Option.some.injEq]at ho
   refine wpOp_in ho' (by rw [←ho]) ?_
   subst ho
   clear ho'
   obtain⟨m,w2,e1,e2,e3⟩:=hI.ins hs (j:=2) (kk:=3) (vv:=2) rfl (hd ⟨0,.data⟩ (by simp) rfl) hL
   have e4:a.eval (.const (.int .i64 3))=.int .i64 3:=rfl
   have e5:a.eval (.const (.int .i64 2))=.int .i64 2:=rfl
   simp only [Oper.wp,execOp,Sem.run_bind,e1,e4,e5,e2,Result.andThen_ok,Sem.run_pure,Oper.upon_skip]
   exact e3
  ·have ho':=ho
   simp only [List.getElem?_toArray,List.getElem?_cons_zero,List.getElem?_cons_succ,Option.some.injEq]at ho
   refine wpOp_in ho' (by rw [←ho]) ?_
   subst ho
   clear ho'
   obtain⟨m,w2,e1,e2,e3⟩:=hI.ins hs (j:=3) (kk:=7) (vv:=2) rfl (hd ⟨0,.data⟩ (by simp) rfl) hL
   have e4:a.eval (.const (.int .i64 7))=.int .i64 7:=rfl
   have e5:a.eval (.const (.int .i64 2))=.int .i64 2:=rfl
   simp only [Oper.wp,execOp,Sem.run_bind,e1,e4,e5,e2,Result.andThen_ok,Sem.run_pure,Oper.upon_skip]
   exact e3
  ·have ho':=ho
   simp only [List.getElem?_toArray,List.getElem?_cons_zero,List.getElem?_cons_succ,Option.some.injEq]at ho
   refine wpOp_in ho' (by rw [←ho]) ?_
   subst ho
   clear ho'
   obtain⟨m,w2,e1,e2,e3⟩:=hI.ins hs (j:=4) (kk:=4) (vv:=4) rfl (hd ⟨0,.data⟩ (by simp) rfl) hL
   have e4:a.eval (.const (.int .i64 4))=.int .i64 4:=rfl
   have e5:a.eval (.const (.int .i64 4))=.int .i64 4:=rfl
   simp only [Oper.wp,execOp,Sem.run_bind,e1,e4,e5,e2,Result.andThen_ok,Sem.run_pure,Oper.upon_skip]
   exact e3
  ·have ho':=ho
   simp only [List.getElem?_toArray,List.getElem?_cons_zero,List.getElem?_cons_succ,Option.some.injEq]at ho
   refine wpOp_in ho' (by rw [←ho]) ?_
   subst ho
   clear ho'
   obtain⟨m,w2,e1,e2,e3⟩:=hI.ins hs (j:=5) (kk:=8) (vv:=4) rfl (hd ⟨0,.data⟩ (by simp) rfl) hL
   have e4:a.eval (.const (.int .i64 8))=.int .i64 8:=rfl
   have e5:a.eval (.const (.int .i64 4))=.int .i64 4:=rfl
   simp only [Oper.wp,execOp,Sem.run_bind,e1,e4,e5,e2,Result.andThen_ok,Sem.run_pure,Oper.upon_skip]
   exact e3
  ·have ho':=ho
   simp only [List.getElem?_toArray,List.getElem?_cons_zero,List.getElem?_cons_succ,Option.some.injEq]at ho
   refine wpOp_in ho' (by rw [←ho]) ?_
   subst ho
   clear ho'
   obtain⟨m,w2,e1,e2,e3⟩:=hI.ins hs (j:=6) (kk:=10) (vv:=4) rfl (hd ⟨0,.data⟩ (by simp) rfl) hL
   have e4:a.eval (.const (.int .i64 10))=.int .i64 10:=rfl
   have e5:a.eval (.const (.int .i64 4))=.int .i64 4:=rfl
   simp only [Oper.wp,execOp,Sem.run_bind,e1,e4,e5,e2,Result.andThen_ok,Sem.run_pure,Oper.upon_skip]
   exact e3
  ·have ho':=ho
   simp only [List.getElem?_toArray,List.getElem?_cons_zero,List.getElem?_cons_succ,Option.some.injEq]at ho
   refine wpOp_in ho' (by rw [←ho]) ?_
   subst ho
   clear ho'
   obtain⟨m,w2,e1,e2,e3⟩:=hI.ins hs (j:=7) (kk:=12) (vv:=4) rfl (hd ⟨0,.data⟩ (by simp) rfl) hL
   have e4:a.eval (.const (.int .i64 12))=.int .i64 12:=rfl
   have e5:a.eval (.const (.int .i64 4))=.int .i64 4:=rfl
   simp only [Oper.wp,execOp,Sem.run_bind,e1,e4,e5,e2,Result.andThen_ok,Sem.run_pure,Oper.upon_skip]
   exact e3
  ·have ho':=ho
   simp only [List.getElem?_toArray,List.getElem?_cons_zero,List.getElem?_cons_succ,Option.some.injEq]at ho
   refine wpOp_in ho' (by rw [←ho]) ?_
   subst ho
   clear ho'
   obtain⟨m,w2,e1,e2,e3⟩:=hI.ins hs (j:=8) (kk:=15) (vv:=4) rfl (hd ⟨0,.data⟩ (by simp) rfl) hL
   have e4:a.eval (.const (.int .i64 15))=.int .i64 15:=rfl
   have e5:a.eval (.const (.int .i64 4))=.int .i64 4:=rfl
   simp only [Oper.wp,execOp,Sem.run_bind,e1,e4,e5,e2,Result.andThen_ok,Sem.run_pure,Oper.upon_skip]
   exact e3
  ·have ho':=ho
   simp only [List.getElem?_toArray,List.getElem?_cons_zero,List.getElem?_cons_succ,Option.some.injEq]at ho
   refine wpOp_in ho' (by rw [←ho]) ?_
   subst ho
   clear ho'
   obtain⟨m,w2,e1,e2,e3⟩:=hI.ins hs (j:=9) (kk:=5) (vv:=8) rfl (hd ⟨0,.data⟩ (by simp) rfl) hL
   have e4:a.eval (.const (.int .i64 5))=.int .i64 5:=rfl
   have e5:a.eval (.const (.int .i64 8))=.int .i64 8:=rfl
   simp only [Oper.wp,execOp,Sem.run_bind,e1,e4,e5,e2,Result.andThen_ok,Sem.run_pure,Oper.upon_skip]
   exact e3
  ·have ho':=ho
   simp only [List.getElem?_toArray,List.getElem?_cons_zero,List.getElem?_cons_succ,Option.some.injEq]at ho
   refine wpOp_in ho' (by rw [←ho]) ?_
   subst ho
   clear ho'
   obtain⟨m,w2,e1,e2,e3⟩:=hI.ins hs (j:=10) (kk:=9) (vv:=8) rfl (hd ⟨0,.data⟩ (by simp) rfl) hL
   have e4:a.eval (.const (.int .i64 9))=.int .i64 9:=rfl
   have e5:a.eval (.const (.int .i64 8))=.int .i64 8:=rfl
   simp only [Oper.wp,execOp,Sem.run_bind,e1,e4,e5,e2,Result.andThen_ok,Sem.run_pure,Oper.upon_skip]
   exact e3
  ·have ho':=ho
   simp only [List.getElem?_toArray,List.getElem?_cons_zero,List.getElem?_cons_succ,Option.some.injEq]at ho
   refine wpOp_in ho' (by rw [←ho]) ?_
   subst ho
   clear ho'
   obtain⟨m,w2,e1,e2,e3⟩:=hI.ins hs (j:=11) (kk:=11) (vv:=8) rfl (hd ⟨0,.data⟩ (by simp) rfl) hL
   have e4:a.eval (.const (.int .i64 11))=.int .i64 11:=rfl
   have e5:a.eval (.const (.int .i64 8))=.int .i64 8:=rfl
   simp only [Oper.wp,execOp,Sem.run_bind,e1,e4,e5,e2,Result.andThen_ok,Sem.run_pure,Oper.upon_skip]
   exact e3
  ·have ho':=ho
   simp only [List.getElem?_toArray,List.getElem?_cons_zero,List.getElem?_cons_succ,Option.some.injEq]at ho
   refine wpOp_in ho' (by rw [←ho]) ?_
   subst ho
   clear ho'
   obtain⟨m,w2,e1,e2,e3⟩:=hI.ins hs (j:=12) (kk:=13) (vv:=8) rfl (hd ⟨0,.data⟩ (by simp) rfl) hL
   have e4:a.eval (.const (.int .i64 13))=.int .i64 13:=rfl
   have e5:a.eval (.const (.int .i64 8))=.int .i64 8:=rfl
   simp only [Oper.wp,execOp,Sem.run_bind,e1,e4,e5,e2,Result.andThen_ok,Sem.run_pure,Oper.upon_skip]
   exact e3
  ·have ho':=ho
   simp only [List.getElem?_toArray,List.getElem?_cons_zero,List.getElem?_cons_succ,Option.some.injEq]at ho
   refine wpOp_in ho' (by rw [←ho]) ?_
   subst ho
   clear ho'
   obtain⟨m,w2,e1,e2,e3⟩:=hI.ins hs (j:=13) (kk:=16) (vv:=8) rfl (hd ⟨0,.data⟩ (by simp) rfl) hL
   have e4:a.eval (.const (.int .i64 16))=.int .i64 16:=rfl
   have e5:a.eval (.const (.int .i64 8))=.int .i64 8:=rfl
   simp only [Oper.wp,execOp,Sem.run_bind,e1,e4,e5,e2,Result.andThen_ok,Sem.run_pure,Oper.upon_skip]
   exact e3
  ·have ho':=ho
   simp only [List.getElem?_toArray,List.getElem?_cons_zero,List.getElem?_cons_succ,Option.some.injEq]at ho
   refine wpOp_in ho' (by rw [←ho]) ?_
   subst ho
   clear ho'
   obtain⟨m,w2,e1,e2,e3⟩:=hI.ins hs (j:=14) (kk:=14) (vv:=16) rfl (hd ⟨0,.data⟩ (by simp) rfl) hL
   have e4:a.eval (.const (.int .i64 14))=.int .i64 14:=rfl
   have e5:a.eval (.const (.int .i64 16))=.int .i64 16:=rfl
   simp only [Oper.wp,execOp,Sem.run_bind,e1,e4,e5,e2,Result.andThen_ok,Sem.run_pure,Oper.upon_skip]
   exact e3
  ·have ho':=ho
   simp only [List.getElem?_toArray,List.getElem?_cons_zero,List.getElem?_cons_succ,Option.some.injEq]at ho
   refine wpOp_in ho' (by rw [←ho]) ?_
   subst ho
   clear ho'
   obtain⟨m,w2,e1,e2,e3⟩:=hI.ins hs (j:=15) (kk:=17) (vv:=16) rfl (hd ⟨0,.data⟩ (by simp) rfl) hL
   have e4:a.eval (.const (.int .i64 17))=.int .i64 17:=rfl
   have e5:a.eval (.const (.int .i64 16))=.int .i64 16:=rfl
   simp only [Oper.wp,execOp,Sem.run_bind,e1,e4,e5,e2,Result.andThen_ok,Sem.run_pure,Oper.upon_skip]
   exact e3
  ·have ho':=ho
   simp only [List.getElem?_toArray,List.getElem?_cons_zero,List.getElem?_cons_succ,Option.some.injEq]at ho
   refine wpOp_in ho' (by rw [←ho]) ?_
   subst ho
   clear ho'
   simp only [Oper.wp,execOp,Sem.run_bind,Result.andThen_ok,Sem.run_pure,Oper.upon_value]
   refine hI.move hs fun j hj=>?_
   have hj':j=0∨j=1∨j=2∨j=3∨j=4∨j=5∨j=6∨j=7∨j=8∨j=9∨j=10∨j=11∨j=12∨j=13∨j=14∨j=15∨j=16:=by omega
   rcases hj' with rfl | rfl | rfl | rfl | rfl | rfl | rfl | rfl | rfl | rfl | rfl | rfl | rfl | rfl | rfl | rfl | rfl<;>exact hd ⟨_,.data⟩ (by simp) rfl
  ·have ho':=ho
   simp only [List.getElem?_toArray,List.getElem?_cons_zero,List.getElem?_cons_succ,Option.some.injEq]at ho
   refine wpOp_in ho' (by rw [←ho]) ?_
   subst ho
   clear ho'
   have e0:=hI.t0
   simp only [Oper.wp,execOp,Sem.run_bind,e0,Result.andThen_ok,Sem.run_pure,Oper.upon_value]
   exact hI.calm hs (Keep.refl _ _) (by decide) (by decide) (by decide) (by decide) (by decide) (by decide) (by unfold fixT;simp)
  ·have ho':=ho
   simp only [List.getElem?_toArray,List.getElem?_cons_zero,List.getElem?_cons_succ,Option.some.injEq]at ho
   refine wpOp_in ho' (by rw [←ho]) ?_
   subst ho
   clear ho'
   obtain⟨m,e1,e2⟩:=hI.look (hd ⟨17,.data⟩ (by simp) rfl)
   have e0:=hI.sl (18,5,.int .i64 k) (by unfold fixT;simp) (hd ⟨18,.data⟩ (by simp) rfl)
   simp only [Oper.wp,execOp,Sem.run_bind,e0,e1,e2,Result.andThen_ok,Sem.run_pure,Oper.upon_value]
   exact hI.calm hs (Keep.refl _ _) (by decide) (by decide) (by decide) (by decide) (by decide) (by decide) (by unfold fixT;simp)
  ·have ho':=ho
   simp only [List.getElem?_toArray,List.getElem?_cons_zero,List.getElem?_cons_succ,Option.some.injEq]at ho
   refine wpOp_in ho' (by rw [←ho]) ?_
   subst ho
   clear ho'
   have e0:=hI.t0
   simp only [Oper.wp,execOp,Sem.run_bind,e0,Result.andThen_ok,Sem.run_pure,Oper.upon_value]
   exact hI.calm hs (Keep.refl _ _) (by decide) (by decide) (by decide) (by decide) (by decide) (by decide) (by unfold fixT;simp)
  ·have ho':=ho
   simp only [List.getElem?_toArray,List.getElem?_cons_zero,List.getElem?_cons_succ,Option.some.injEq]at ho
   refine wpOp_in ho' (by rw [←ho]) ?_
   subst ho
   clear ho'
   have e0:=hI.sl (20,7,.int .i64 k) (by unfold fixT;simp) (hd ⟨20,.data⟩ (by simp) rfl)
   have hr:(execOp a.eval { dst:=some 8,op:=Op.call { callee:=Callee.value (Operand.func 207),args:=#[Operand.tmp 7],argTypes:=#[3] },type:=3,pos:= "amqp.go:13",after:=#[{ on:=20,ground:=Ground.data }],guard:=none }).run Tryz.prog w'=.ok (.enter 207 #[.int .i64 k]) w':=by
    simp [execOp,resolve,go_sem]
    simpa [Act.eval]using e0
   simp only [Oper.wp,hr,Oper.upon]
   refine(hb w').mono ?_
   rintro e w2 ⟨rfl,rfl⟩
   exact hI.calm hs (Keep.refl _ _) (by decide) (by decide) (by decide) (by decide) (by decide) (by decide) (by unfold fixT;simp)
  ·have ho':=ho
   simp only [List.getElem?_toArray,List.getElem?_cons_zero,List.getElem?_cons_succ,Option.some.injEq]at ho
   refine wpOp_in ho' (by rw [←ho]) ?_
   subst ho
   clear ho'
   have e0:a.eval (.tmp 6)=.int .i64 ((sizeL.lookup k).getD 0):=hI.sl (19,6,_) (by unfold fixT;simp) (hd ⟨19,.data⟩ (by simp) rfl)
   have e1:a.eval (.tmp 8)=.int .i64 (bsz k):=hI.sl (21,8,_) (by unfold fixT;simp) (hd ⟨21,.data⟩ (by simp) rfl)
   have hw:IntKind.i64.wrap ((sizeL.lookup k).getD 0-bsz k)=fixedV k:=by
    have h1:=sizeL_le k
    have h2:=bsz_le k
    rw [IntWalk.i64_in _ (by omega)]
    rfl
   have hr:(execOp a.eval { dst:=some 9,op:=Op.binOp BinOp.sub 3 (Operand.tmp 6) (Operand.tmp 8) 3,type:=3,pos:= "amqp.go:13",after:=#[{ on:=19,ground:=Ground.data },{ on:=21,ground:=Ground.data }],guard:=none }).run Tryz.prog w'=.ok (.value (.int .i64 (fixedV k))) w':=by
    simp only [execOp,e0,e1]
    simp [go_sem,hw]
   simp only [Oper.wp,hr,Oper.upon_value]
   exact hI.calm hs (Keep.refl _ _) (by decide) (by decide) (by decide) (by decide) (by decide) (by decide) (by unfold fixT;simp)
  ·have ho':=ho
   simp only [List.getElem?_toArray,List.getElem?_cons_zero,List.getElem?_cons_succ,Option.some.injEq]at ho
   refine wpOp_in ho' (by rw [←ho]) ?_
   subst ho
   clear ho'
   have e0:=hI.sl (22,9,_) (by unfold fixT;simp;rfl) (hd ⟨22,.data⟩ (by simp) rfl)
   simp only [Oper.wp,execOp,Sem.run_bind,e0,Result.andThen_ok,Sem.run_pure,Oper.upon_value]
   exact hI.calm hs (Keep.refl _ _) (by decide) (by decide) (by decide) (by decide) (by decide) (by decide) (by unfold fixT;simp)
end Go.Proofs.YtfoegolfadhmjaaGreatDoor
namespace Go.Proofs.YtfoegolfadhmjaaGreatDoor
open Go.RowKit Go.WideShapes
structure Agrees(F:Act)(mask:List Nat)(a:Act):Prop where
 defers:a.defers=F.defers
 size:a.tmps.size=F.tmps.size
 same:∀t,t∉mask→a.tmps[t]? =F.tmps[t]?
theorem Agrees.refl(F:Act)(mask:List Nat):Agrees F mask F:=⟨rfl,rfl,fun _ _=>rfl⟩
theorem Agrees.put{F a:Act}{mask:List Nat}(h:Agrees F mask a){d:Nat}(hd:d∈mask){v:Value}:Agrees F mask (a.put (some d) v):=by
 refine⟨h.defers,(put_size a (some d) v).trans h.size,fun t ht=>?_⟩
 have:d≠t:=fun e=>ht (e▸hd)
 simp only [Act.put,Array.getElem?_setIfInBounds_ne this]
 exact h.same t ht
theorem Agrees.keep{F a:Act}{mask:List Nat}(h:Agrees F mask a)(t:Nat)(ht:t∉mask):F.eval (.tmp t)=a.eval (.tmp t):=by
 simp only [Act.eval,Array.getD_eq_getD_getElem?,h.same t ht]
def setAll(a:Act)(l:List Value):List Nat→List Value
 | []=>l
 | d::m=>(setAll a l m).set d (a.eval (.tmp d))
theorem setAll_len(a:Act)(l:List Value):∀m,(setAll a l m).length=l.length
 | []=>rfl
 | d::m=>by rw [setAll,List.length_set,setAll_len a l m]
theorem Agrees.eq{l:List Value}{df:List Deferred}{a:Act}{mask:List Nat}(h:Agrees ⟨l.toArray,df⟩ mask a):a=⟨(setAll a l mask).toArray,df⟩:=by
 obtain⟨t,d⟩:=a
 have hd:d=df:=h.defers
 subst hd
 refine congrArg (fun x=>Act.mk x d) ?_
 apply Array.ext_getElem?
 intro i
 show t[i]? =_
 rw [show((setAll ⟨t,d⟩ l mask).toArray)[i]? =(setAll ⟨t,d⟩ l mask)[i]? from List.getElem?_toArray ..]
 have hs:t.size=l.length:=by simpa using h.size
 have key:∀m,(i∈m→(setAll ⟨t,d⟩ l m)[i]? =t[i]?)∧(i∉m→(setAll ⟨t,d⟩ l m)[i]? =l[i]?):=by
  intro m
  induction m with
  | nil=>exact⟨fun h=>by simp at h,fun _=>rfl⟩
  | cons x m ih=>
    by_cases e:x=i
    ·subst e
     refine⟨fun _=>?_,fun h=>absurd (List.mem_cons_self ..) h⟩
     rw [setAll]
     by_cases hx:x<l.length
     ·rw [List.getElem?_set_self (by rw [setAll_len];exact hx),Array.getElem?_eq_getElem (by omega)]
      simp [Act.eval,Array.getD,show x<t.size by omega]
     ·rw [List.getElem?_eq_none (by rw [List.length_set,setAll_len];omega),Array.getElem?_eq_none (by omega)]
    ·rw [setAll,List.getElem?_set_ne e]
     exact⟨fun h=>ih.1 ((List.mem_cons.1 h).elim (fun h=>absurd h.symm e) id),fun h=>ih.2 fun h'=>h (List.mem_cons_of_mem _ h')⟩
 by_cases hm:i∈mask
 ·exact((key mask).1 hm).symm
 ·rw [(key mask).2 hm]
  simpa using h.same i hm
def up{α:Type}(f:Nat→α)(i:Nat)(b:α):Nat→α:=fun j=>if i=j then b else f j
theorem build143(c:Int)(A:Option Addr)(m cc:Nat)(w:World):(Instr.build 143 #[(0,.int .i64 c),(1,.slice A m cc)]).run Tryz.prog w=.ok (.agg #[.int .i64 c,.slice A m cc]) w:=by kernel_rfl
theorem slice143(c:Int)(A:Option Addr)(m cc:Nat)(w:World):(Instr.buildSlice 140 1 #[(0,.agg #[.int .i64 c,.slice A m cc])]).run Tryz.prog w=.ok (.slice (some ⟨w.heap.size,0,none⟩) 1 1) (w.alloc (.cells #[.int .i64 c,.slice A m cc] 143)):=by kernel_rfl
theorem up_L{L:Array Bool}{i:Nat}(h:i<L.size):(fun j=>(L.setIfInBounds i true).getD j false)=up (fun j=>L.getD j false) i true:=by
 funext j
 rw [getD_set h]
 rfl
theorem up_x{a:Act}{d:Nat}{v:Value}(h:d<a.tmps.size):(fun t=>(a.put (some d) v).eval (.tmp t))=up (fun t=>a.eval (.tmp t)) d v:=by
 funext t
 rw [eval_put h]
 rfl
structure Ins8(w0:World)(base B n:Nat)(k:Int)(c:UInt8)(s0:Value)(fs:List (UInt8×List UInt8))(l:Nat→Bool)(x:Nat→Value)(w:World):Prop where
 nw:New w0 w
 mp:l 0=true→l 6=false→∃m q,x 30=.map (some m)∧w0.heap.size≤m∧IntMap w m q∧(∀p,p∈q↔(p=(4,82)∧l 1=true)∨(p=(5,83)∧l 2=true))∧(l 3=true→x 31=.map (some m))
 d1:l 1=true→l 0=true
 d2:l 2=true→l 0=true
 d3:l 3=true→l 1=true∧l 2=true
 d6:l 6=true→l 3=true
 d9:l 9=true→l 6=true∧l 8=true
 d10:l 10=true→l 9=true
 d12:l 12=true→l 10=true∧l 11=true
 d13:l 13=true→l 12=true
 t4:l 4=true→x 32=.pointer (some ⟨B,0,none⟩)
 t5:l 5=true→x 33=.int .i64 k
 t6:l 6=true→x 34=.int .i64 (c.toNat:Int)
 t7:l 7=true→x 35=.int .u64 (n:Int)
 t11:l 11=true→x 39=s0
 by8:l 8=true→l 9=false→∃S:Nat→Prop,Dep S w (fun w=>SlB w (x 36) (beB 1 n))∧(∀b,S b→w0.heap.size≤b)∧(∀m,l 0=true→l 6=false→x 30=.map (some m)→¬S m)
 p9:l 9=true→l 10=false→∃v,x 37=.agg #[.int .i64 (c.toNat:Int),v]∧Dep (fun b=>w0.heap.size≤b) w (fun w=>SlB w v (beB 1 n))
 p10:l 10=true→l 12=false→RowG 143 2 Pcs w w0.heap.size (x 38) [(c,beB 1 n)]
 p12:l 12=true→RowG 143 2 Pcs w base (x 40) ((c,beB 1 n)::fs)
 q6:l 13=false→x 6=s0
 p13:l 13=true→x 6=x 40
theorem Ins8.map_lt{w0:World}{base B n:Nat}{k:Int}{c:UInt8}{s0:Value}{fs:List (UInt8×List UInt8)}{l:Nat→Bool}{x:Nat→Value}{w:World}(h:Ins8 w0 base B n k c s0 fs l x w){m:Nat}(a:l 0=true)(b:l 6=false)(e:x 30=.map (some m)):m<w.heap.size:=by
 obtain⟨m',q,e1,e2,e3,_⟩:=h.mp a b
 obtain⟨es,c,hm,_⟩:=e3
 rw [e]at e1
 injection e1 with e1
 injection e1 with e1
 subst e1
 exact lt_blk hm
theorem Ins8.world{w0:World}{base B n:Nat}{k:Int}{c:UInt8}{s0:Value}{fs:List (UInt8×List UInt8)}{l:Nat→Bool}{x:Nat→Value}{w:World}{w':World}(h:Ins8 w0 base B n k c s0 fs l x w)(kk:New w w'):Ins8 w0 base B n k c s0 fs l x w':=
 ⟨h.nw.trans kk,fun a b=>let ⟨m,q,e1,e2,e3,e4⟩:=h.mp a b;⟨m,q,e1,e2,e3.keep kk,e4⟩,h.d1,h.d2,h.d3,h.d6,h.d9,h.d10,h.d12,h.d13,h.t4,h.t5,h.t6,h.t7,h.t11,
  fun a b=>let ⟨S,e1,e2⟩:=h.by8 a b;⟨S,e1.new kk,e2⟩,fun a b=>let ⟨v,e1,e2⟩:=h.p9 a b;⟨v,e1,e2.new kk⟩,fun a b=>(h.p10 a b).keep kk (fun _ _=>trivial),fun a=>(h.p12 a).keep kk (fun _ _=>trivial),h.q6,h.p13⟩
theorem Ins8.s0{w0:World}{base B n:Nat}{k:Int}{c:UInt8}{s0:Value}{fs:List (UInt8×List UInt8)}{l:Nat→Bool}{x:Nat→Value}{w:World}(h:Ins8 w0 base B n k c s0 fs l x w)(hl:l 0=false):Ins8 w0 base B n k c s0 fs (up l 0 true) (up x 30 (.map (some w.heap.size))) (w.alloc (.map #[] 0)):=by
 have g:=h.world ((Keep.refl (fun _=>True) w).alloc (.map #[] 0))
 have n1:l 1=false:=by cases e:l 1 with | false=>rfl | true=>rw [h.d1 e]at hl;cases hl
 have n2:l 2=false:=by cases e:l 2 with | false=>rfl | true=>rw [h.d2 e]at hl;cases hl
 have n3:l 3=false:=by cases e:l 3 with | false=>rfl | true=>rw [(h.d3 e).1]at n1;cases n1
 constructor
 case nw=>simpa [up]using g.nw
 case mp=>
  intro _ _
  refine⟨w.heap.size,[],by simp [up],h.nw.size,IntMap.new w,fun p=>?_,?_⟩
  ·simp [up,n1,n2]
  ·simp [up,n3]
 case d1=>simpa [up]using g.d1
 case d2=>simpa [up]using g.d2
 case d3=>simpa [up]using g.d3
 case d6=>simpa [up]using g.d6
 case d9=>simpa [up]using g.d9
 case d10=>simpa [up]using g.d10
 case d12=>simpa [up]using g.d12
 case d13=>simpa [up]using g.d13
 case t4=>simpa [up]using g.t4
 case t5=>simpa [up]using g.t5
 case t6=>simpa [up]using g.t6
 case t7=>simpa [up]using g.t7
 case t11=>simpa [up]using g.t11
 case by8=>
  intro h8 h9
  obtain⟨S,e1,e2,e3⟩:=h.by8 (by simpa [up]using h8) (by simpa [up]using h9)
  refine⟨fun b=>S b∧b<w.heap.size,(e1.step (by simp) (fun i hi _=>((Keep.refl (fun _=>True) w).alloc (.map #[] 0)).block i hi trivial) (fun b hb hs=>⟨hs,hb⟩)).imp (fun w' h'=>by simpa [up]using h'),fun b hb=>e2 b hb.1,fun m _ _ hm hS=>?_⟩
  simp [up]at hm
  omega
 case p9=>simpa [up]using g.p9
 case p10=>simpa [up]using g.p10
 case p12=>simpa [up]using g.p12
 case q6=>simpa [up]using g.q6
 case p13=>simpa [up]using g.p13
theorem Ins8.s1{w0:World}{base B n:Nat}{k:Int}{c:UInt8}{s0:Value}{fs:List (UInt8×List UInt8)}{l:Nat→Bool}{x:Nat→Value}{w:World}(h:Ins8 w0 base B n k c s0 fs l x w)(h0:l 0=true)(hl:l 1=false):∃m w',x 30=.map (some m)∧(Instr.mapUpdate 294 (.map (some m)) (.int .i64 4) (.int .i64 82)).run Tryz.prog w=.ok () w'∧Ins8 w0 base B n k c s0 fs (up l 1 true) x w':=by
 have n3:l 3=false:=by cases e:l 3 with | false=>rfl | true=>exact absurd (h.d3 e) (by simp [hl])
 have n6:l 6=false:=by cases e:l 6 with | false=>rfl | true=>rw [h.d6 e]at n3;cases n3
 have n9:l 9=false:=by cases e:l 9 with | false=>rfl | true=>rw [(h.d9 e).1]at n6;cases n6
 have n10:l 10=false:=by cases e:l 10 with | false=>rfl | true=>rw [h.d10 e]at n9;cases n9
 have n12:l 12=false:=by cases e:l 12 with | false=>rfl | true=>rw [(h.d12 e).1]at n10;cases n10
 obtain⟨m,q,e1,e2,e3,e4,e5⟩:=h.mp h0 n6
 have hno:q.lookup 4=none:=lookup_none_of fun p hp e=>by
  rcases (e4 p).1 hp with⟨rfl,h'⟩ | ⟨rfl,h'⟩
  ·first | (rw [hl]at h';cases h') | simp at e
  ·first | (rw [hl]at h';cases h') | simp at e
 obtain⟨w',r1,r2,r3⟩:=e3.upd 4 82 hno
 refine⟨m,w',e1,r1,?_⟩
 constructor
 case nw=>exact h.nw.then r3 (fun i hi _=>by show i≠m;omega)
 case mp=>
  intro _ _
  refine⟨m,_,e1,e2,r2,fun p=>?_,fun h3=>by simp [up,n3]at h3⟩
  rw [List.mem_append,e4,List.mem_singleton]
  simp [up,hl,or_comm]
 case d1=>intro _;simpa [up]using h0
 case d2=>first | (simpa [up]using h.d2) | (intro a;have:=h.d2 (by simpa [up]using a);simp [up,this])
 case d3=>first | (simpa [up]using h.d3) | (intro a;have:=h.d3 (by simpa [up]using a);simp [up,this])
 case d6=>first | (simpa [up]using h.d6) | (intro a;have:=h.d6 (by simpa [up]using a);simp [up,this])
 case d9=>first | (simpa [up]using h.d9) | (intro a;have:=h.d9 (by simpa [up]using a);simp [up,this])
 case d10=>first | (simpa [up]using h.d10) | (intro a;have:=h.d10 (by simpa [up]using a);simp [up,this])
 case d12=>first | (simpa [up]using h.d12) | (intro a;have:=h.d12 (by simpa [up]using a);simp [up,this])
 case d13=>first | (simpa [up]using h.d13) | (intro a;have:=h.d13 (by simpa [up]using a);simp [up,this])
 case t4=>first | (simpa [up]using h.t4) | (intro a;have:=h.t4 (by simpa [up]using a);simp [up,this])
 case t5=>first | (simpa [up]using h.t5) | (intro a;have:=h.t5 (by simpa [up]using a);simp [up,this])
 case t6=>first | (simpa [up]using h.t6) | (intro a;have:=h.t6 (by simpa [up]using a);simp [up,this])
 case t7=>first | (simpa [up]using h.t7) | (intro a;have:=h.t7 (by simpa [up]using a);simp [up,this])
 case t11=>first | (simpa [up]using h.t11) | (intro a;have:=h.t11 (by simpa [up]using a);simp [up,this])
 case by8=>
  intro h8 h9
  obtain⟨S,b1,b2,b3⟩:=h.by8 (by simpa [up]using h8) (by simpa [up]using h9)
  exact⟨S,b1.keep r3 (fun i _ hi=>by rintro rfl;exact b3 i h0 n6 e1 hi),b2,fun m' hm' h6'=>b3 m' (by simpa [up]using hm') n6⟩
 case p9=>intro a;simp [up,n9]at a
 case p10=>intro a;simp [up,n10]at a
 case p12=>intro a;simp [up,n12]at a
 case q6=>first | (simpa [up]using h.q6) | (intro a;have:=h.q6 (by simpa [up]using a);simp [up,this])
 case p13=>first | (simpa [up]using h.p13) | (intro a;have:=h.p13 (by simpa [up]using a);simp [up,this])
theorem Ins8.s2{w0:World}{base B n:Nat}{k:Int}{c:UInt8}{s0:Value}{fs:List (UInt8×List UInt8)}{l:Nat→Bool}{x:Nat→Value}{w:World}(h:Ins8 w0 base B n k c s0 fs l x w)(h0:l 0=true)(hl:l 2=false):∃m w',x 30=.map (some m)∧(Instr.mapUpdate 294 (.map (some m)) (.int .i64 5) (.int .i64 83)).run Tryz.prog w=.ok () w'∧Ins8 w0 base B n k c s0 fs (up l 2 true) x w':=by
 have n3:l 3=false:=by cases e:l 3 with | false=>rfl | true=>exact absurd (h.d3 e) (by simp [hl])
 have n6:l 6=false:=by cases e:l 6 with | false=>rfl | true=>rw [h.d6 e]at n3;cases n3
 have n9:l 9=false:=by cases e:l 9 with | false=>rfl | true=>rw [(h.d9 e).1]at n6;cases n6
 have n10:l 10=false:=by cases e:l 10 with | false=>rfl | true=>rw [h.d10 e]at n9;cases n9
 have n12:l 12=false:=by cases e:l 12 with | false=>rfl | true=>rw [(h.d12 e).1]at n10;cases n10
 obtain⟨m,q,e1,e2,e3,e4,e5⟩:=h.mp h0 n6
 have hno:q.lookup 5=none:=lookup_none_of fun p hp e=>by
  rcases (e4 p).1 hp with⟨rfl,h'⟩ | ⟨rfl,h'⟩
  ·first | (rw [hl]at h';cases h') | simp at e
  ·first | (rw [hl]at h';cases h') | simp at e
 obtain⟨w',r1,r2,r3⟩:=e3.upd 5 83 hno
 refine⟨m,w',e1,r1,?_⟩
 constructor
 case nw=>exact h.nw.then r3 (fun i hi _=>by show i≠m;omega)
 case mp=>
  intro _ _
  refine⟨m,_,e1,e2,r2,fun p=>?_,fun h3=>by simp [up,n3]at h3⟩
  rw [List.mem_append,e4,List.mem_singleton]
  simp [up,hl,or_comm]
 case d1=>first | (simpa [up]using h.d1) | (intro a;have:=h.d1 (by simpa [up]using a);simp [up,this])
 case d2=>intro _;simpa [up]using h0
 case d3=>first | (simpa [up]using h.d3) | (intro a;have:=h.d3 (by simpa [up]using a);simp [up,this])
 case d6=>first | (simpa [up]using h.d6) | (intro a;have:=h.d6 (by simpa [up]using a);simp [up,this])
 case d9=>first | (simpa [up]using h.d9) | (intro a;have:=h.d9 (by simpa [up]using a);simp [up,this])
 case d10=>first | (simpa [up]using h.d10) | (intro a;have:=h.d10 (by simpa [up]using a);simp [up,this])
 case d12=>first | (simpa [up]using h.d12) | (intro a;have:=h.d12 (by simpa [up]using a);simp [up,this])
 case d13=>first | (simpa [up]using h.d13) | (intro a;have:=h.d13 (by simpa [up]using a);simp [up,this])
 case t4=>first | (simpa [up]using h.t4) | (intro a;have:=h.t4 (by simpa [up]using a);simp [up,this])
 case t5=>first | (simpa [up]using h.t5) | (intro a;have:=h.t5 (by simpa [up]using a);simp [up,this])
 case t6=>first | (simpa [up]using h.t6) | (intro a;have:=h.t6 (by simpa [up]using a);simp [up,this])
 case t7=>first | (simpa [up]using h.t7) | (intro a;have:=h.t7 (by simpa [up]using a);simp [up,this])
 case t11=>first | (simpa [up]using h.t11) | (intro a;have:=h.t11 (by simpa [up]using a);simp [up,this])
 case by8=>
  intro h8 h9
  obtain⟨S,b1,b2,b3⟩:=h.by8 (by simpa [up]using h8) (by simpa [up]using h9)
  exact⟨S,b1.keep r3 (fun i _ hi=>by rintro rfl;exact b3 i h0 n6 e1 hi),b2,fun m' hm' h6'=>b3 m' (by simpa [up]using hm') n6⟩
 case p9=>intro a;simp [up,n9]at a
 case p10=>intro a;simp [up,n10]at a
 case p12=>intro a;simp [up,n12]at a
 case q6=>first | (simpa [up]using h.q6) | (intro a;have:=h.q6 (by simpa [up]using a);simp [up,this])
 case p13=>first | (simpa [up]using h.p13) | (intro a;have:=h.p13 (by simpa [up]using a);simp [up,this])
theorem Ins8.s3{w0:World}{base B n:Nat}{k:Int}{c:UInt8}{s0:Value}{fs:List (UInt8×List UInt8)}{l:Nat→Bool}{x:Nat→Value}{w:World}(h:Ins8 w0 base B n k c s0 fs l x w)(h0:l 0=true)(h1:l 1=true)(h2:l 2=true)(hl:l 3=false):Ins8 w0 base B n k c s0 fs (up l 3 true) (up x 31 (x 30)) w:=by
 constructor
 case nw=>first | (simpa [up]using h.nw) | (intro a;have:=h.nw (by simpa [up]using a);simp [up,this])
 case mp=>
  intro _ h6
  obtain⟨m,q,e1,e2,e3,e4,e5⟩:=h.mp h0 (by simpa [up]using h6)
  exact⟨m,q,by simpa [up]using e1,e2,e3,by simpa [up]using e4,by simp [up,e1]⟩
 case d1=>first | (simpa [up]using h.d1) | (intro a;have:=h.d1 (by simpa [up]using a);simp [up,this])
 case d2=>first | (simpa [up]using h.d2) | (intro a;have:=h.d2 (by simpa [up]using a);simp [up,this])
 case d3=>intro _;simp [up,h1,h2]
 case d6=>first | (simpa [up]using h.d6) | (intro a;have:=h.d6 (by simpa [up]using a);simp [up,this])
 case d9=>first | (simpa [up]using h.d9) | (intro a;have:=h.d9 (by simpa [up]using a);simp [up,this])
 case d10=>first | (simpa [up]using h.d10) | (intro a;have:=h.d10 (by simpa [up]using a);simp [up,this])
 case d12=>first | (simpa [up]using h.d12) | (intro a;have:=h.d12 (by simpa [up]using a);simp [up,this])
 case d13=>first | (simpa [up]using h.d13) | (intro a;have:=h.d13 (by simpa [up]using a);simp [up,this])
 case t4=>first | (simpa [up]using h.t4) | (intro a;have:=h.t4 (by simpa [up]using a);simp [up,this])
 case t5=>first | (simpa [up]using h.t5) | (intro a;have:=h.t5 (by simpa [up]using a);simp [up,this])
 case t6=>first | (simpa [up]using h.t6) | (intro a;have:=h.t6 (by simpa [up]using a);simp [up,this])
 case t7=>first | (simpa [up]using h.t7) | (intro a;have:=h.t7 (by simpa [up]using a);simp [up,this])
 case t11=>first | (simpa [up]using h.t11) | (intro a;have:=h.t11 (by simpa [up]using a);simp [up,this])
 case by8=>first | (simpa [up]using h.by8) | (intro a;have:=h.by8 (by simpa [up]using a);simp [up,this])
 case p9=>first | (simpa [up]using h.p9) | (intro a;have:=h.p9 (by simpa [up]using a);simp [up,this])
 case p10=>first | (simpa [up]using h.p10) | (intro a;have:=h.p10 (by simpa [up]using a);simp [up,this])
 case p12=>first | (simpa [up]using h.p12) | (intro a;have:=h.p12 (by simpa [up]using a);simp [up,this])
 case q6=>first | (simpa [up]using h.q6) | (intro a;have:=h.q6 (by simpa [up]using a);simp [up,this])
 case p13=>first | (simpa [up]using h.p13) | (intro a;have:=h.p13 (by simpa [up]using a);simp [up,this])
theorem Ins8.s4{w0:World}{base B n:Nat}{k:Int}{c:UInt8}{s0:Value}{fs:List (UInt8×List UInt8)}{l:Nat→Bool}{x:Nat→Value}{w:World}(h:Ins8 w0 base B n k c s0 fs l x w):Ins8 w0 base B n k c s0 fs (up l 4 true) (up x 32 (.pointer (some ⟨B,0,none⟩))) w:=by
 constructor
 case nw=>first | (simpa [up]using h.nw) | (intro a;have:=h.nw (by simpa [up]using a);simp [up,this])
 case mp=>first | (simpa [up]using h.mp) | (intro a;have:=h.mp (by simpa [up]using a);simp [up,this])
 case d1=>first | (simpa [up]using h.d1) | (intro a;have:=h.d1 (by simpa [up]using a);simp [up,this])
 case d2=>first | (simpa [up]using h.d2) | (intro a;have:=h.d2 (by simpa [up]using a);simp [up,this])
 case d3=>first | (simpa [up]using h.d3) | (intro a;have:=h.d3 (by simpa [up]using a);simp [up,this])
 case d6=>first | (simpa [up]using h.d6) | (intro a;have:=h.d6 (by simpa [up]using a);simp [up,this])
 case d9=>first | (simpa [up]using h.d9) | (intro a;have:=h.d9 (by simpa [up]using a);simp [up,this])
 case d10=>first | (simpa [up]using h.d10) | (intro a;have:=h.d10 (by simpa [up]using a);simp [up,this])
 case d12=>first | (simpa [up]using h.d12) | (intro a;have:=h.d12 (by simpa [up]using a);simp [up,this])
 case d13=>first | (simpa [up]using h.d13) | (intro a;have:=h.d13 (by simpa [up]using a);simp [up,this])
 case t4=>intro _;simp [up]
 case t5=>first | (simpa [up]using h.t5) | (intro a;have:=h.t5 (by simpa [up]using a);simp [up,this])
 case t6=>first | (simpa [up]using h.t6) | (intro a;have:=h.t6 (by simpa [up]using a);simp [up,this])
 case t7=>first | (simpa [up]using h.t7) | (intro a;have:=h.t7 (by simpa [up]using a);simp [up,this])
 case t11=>first | (simpa [up]using h.t11) | (intro a;have:=h.t11 (by simpa [up]using a);simp [up,this])
 case by8=>first | (simpa [up]using h.by8) | (intro a;have:=h.by8 (by simpa [up]using a);simp [up,this])
 case p9=>first | (simpa [up]using h.p9) | (intro a;have:=h.p9 (by simpa [up]using a);simp [up,this])
 case p10=>first | (simpa [up]using h.p10) | (intro a;have:=h.p10 (by simpa [up]using a);simp [up,this])
 case p12=>first | (simpa [up]using h.p12) | (intro a;have:=h.p12 (by simpa [up]using a);simp [up,this])
 case q6=>first | (simpa [up]using h.q6) | (intro a;have:=h.q6 (by simpa [up]using a);simp [up,this])
 case p13=>first | (simpa [up]using h.p13) | (intro a;have:=h.p13 (by simpa [up]using a);simp [up,this])
theorem Ins8.s5{w0:World}{base B n:Nat}{k:Int}{c:UInt8}{s0:Value}{fs:List (UInt8×List UInt8)}{l:Nat→Bool}{x:Nat→Value}{w:World}(h:Ins8 w0 base B n k c s0 fs l x w):Ins8 w0 base B n k c s0 fs (up l 5 true) (up x 33 (.int .i64 k)) w:=by
 constructor
 case nw=>first | (simpa [up]using h.nw) | (intro a;have:=h.nw (by simpa [up]using a);simp [up,this])
 case mp=>first | (simpa [up]using h.mp) | (intro a;have:=h.mp (by simpa [up]using a);simp [up,this])
 case d1=>first | (simpa [up]using h.d1) | (intro a;have:=h.d1 (by simpa [up]using a);simp [up,this])
 case d2=>first | (simpa [up]using h.d2) | (intro a;have:=h.d2 (by simpa [up]using a);simp [up,this])
 case d3=>first | (simpa [up]using h.d3) | (intro a;have:=h.d3 (by simpa [up]using a);simp [up,this])
 case d6=>first | (simpa [up]using h.d6) | (intro a;have:=h.d6 (by simpa [up]using a);simp [up,this])
 case d9=>first | (simpa [up]using h.d9) | (intro a;have:=h.d9 (by simpa [up]using a);simp [up,this])
 case d10=>first | (simpa [up]using h.d10) | (intro a;have:=h.d10 (by simpa [up]using a);simp [up,this])
 case d12=>first | (simpa [up]using h.d12) | (intro a;have:=h.d12 (by simpa [up]using a);simp [up,this])
 case d13=>first | (simpa [up]using h.d13) | (intro a;have:=h.d13 (by simpa [up]using a);simp [up,this])
 case t4=>first | (simpa [up]using h.t4) | (intro a;have:=h.t4 (by simpa [up]using a);simp [up,this])
 case t5=>intro _;simp [up]
 case t6=>first | (simpa [up]using h.t6) | (intro a;have:=h.t6 (by simpa [up]using a);simp [up,this])
 case t7=>first | (simpa [up]using h.t7) | (intro a;have:=h.t7 (by simpa [up]using a);simp [up,this])
 case t11=>first | (simpa [up]using h.t11) | (intro a;have:=h.t11 (by simpa [up]using a);simp [up,this])
 case by8=>first | (simpa [up]using h.by8) | (intro a;have:=h.by8 (by simpa [up]using a);simp [up,this])
 case p9=>first | (simpa [up]using h.p9) | (intro a;have:=h.p9 (by simpa [up]using a);simp [up,this])
 case p10=>first | (simpa [up]using h.p10) | (intro a;have:=h.p10 (by simpa [up]using a);simp [up,this])
 case p12=>first | (simpa [up]using h.p12) | (intro a;have:=h.p12 (by simpa [up]using a);simp [up,this])
 case q6=>first | (simpa [up]using h.q6) | (intro a;have:=h.q6 (by simpa [up]using a);simp [up,this])
 case p13=>first | (simpa [up]using h.p13) | (intro a;have:=h.p13 (by simpa [up]using a);simp [up,this])
theorem Ins8.s7{w0:World}{base B n:Nat}{k:Int}{c:UInt8}{s0:Value}{fs:List (UInt8×List UInt8)}{l:Nat→Bool}{x:Nat→Value}{w:World}(h:Ins8 w0 base B n k c s0 fs l x w):Ins8 w0 base B n k c s0 fs (up l 7 true) (up x 35 (.int .u64 (n:Int))) w:=by
 constructor
 case nw=>first | (simpa [up]using h.nw) | (intro a;have:=h.nw (by simpa [up]using a);simp [up,this])
 case mp=>first | (simpa [up]using h.mp) | (intro a;have:=h.mp (by simpa [up]using a);simp [up,this])
 case d1=>first | (simpa [up]using h.d1) | (intro a;have:=h.d1 (by simpa [up]using a);simp [up,this])
 case d2=>first | (simpa [up]using h.d2) | (intro a;have:=h.d2 (by simpa [up]using a);simp [up,this])
 case d3=>first | (simpa [up]using h.d3) | (intro a;have:=h.d3 (by simpa [up]using a);simp [up,this])
 case d6=>first | (simpa [up]using h.d6) | (intro a;have:=h.d6 (by simpa [up]using a);simp [up,this])
 case d9=>first | (simpa [up]using h.d9) | (intro a;have:=h.d9 (by simpa [up]using a);simp [up,this])
 case d10=>first | (simpa [up]using h.d10) | (intro a;have:=h.d10 (by simpa [up]using a);simp [up,this])
 case d12=>first | (simpa [up]using h.d12) | (intro a;have:=h.d12 (by simpa [up]using a);simp [up,this])
 case d13=>first | (simpa [up]using h.d13) | (intro a;have:=h.d13 (by simpa [up]using a);simp [up,this])
 case t4=>first | (simpa [up]using h.t4) | (intro a;have:=h.t4 (by simpa [up]using a);simp [up,this])
 case t5=>first | (simpa [up]using h.t5) | (intro a;have:=h.t5 (by simpa [up]using a);simp [up,this])
 case t6=>first | (simpa [up]using h.t6) | (intro a;have:=h.t6 (by simpa [up]using a);simp [up,this])
 case t7=>intro _;simp [up]
 case t11=>first | (simpa [up]using h.t11) | (intro a;have:=h.t11 (by simpa [up]using a);simp [up,this])
 case by8=>first | (simpa [up]using h.by8) | (intro a;have:=h.by8 (by simpa [up]using a);simp [up,this])
 case p9=>first | (simpa [up]using h.p9) | (intro a;have:=h.p9 (by simpa [up]using a);simp [up,this])
 case p10=>first | (simpa [up]using h.p10) | (intro a;have:=h.p10 (by simpa [up]using a);simp [up,this])
 case p12=>first | (simpa [up]using h.p12) | (intro a;have:=h.p12 (by simpa [up]using a);simp [up,this])
 case q6=>first | (simpa [up]using h.q6) | (intro a;have:=h.q6 (by simpa [up]using a);simp [up,this])
 case p13=>first | (simpa [up]using h.p13) | (intro a;have:=h.p13 (by simpa [up]using a);simp [up,this])
theorem Ins8.s11{w0:World}{base B n:Nat}{k:Int}{c:UInt8}{s0:Value}{fs:List (UInt8×List UInt8)}{l:Nat→Bool}{x:Nat→Value}{w:World}(h:Ins8 w0 base B n k c s0 fs l x w):Ins8 w0 base B n k c s0 fs (up l 11 true) (up x 39 (s0)) w:=by
 constructor
 case nw=>first | (simpa [up]using h.nw) | (intro a;have:=h.nw (by simpa [up]using a);simp [up,this])
 case mp=>first | (simpa [up]using h.mp) | (intro a;have:=h.mp (by simpa [up]using a);simp [up,this])
 case d1=>first | (simpa [up]using h.d1) | (intro a;have:=h.d1 (by simpa [up]using a);simp [up,this])
 case d2=>first | (simpa [up]using h.d2) | (intro a;have:=h.d2 (by simpa [up]using a);simp [up,this])
 case d3=>first | (simpa [up]using h.d3) | (intro a;have:=h.d3 (by simpa [up]using a);simp [up,this])
 case d6=>first | (simpa [up]using h.d6) | (intro a;have:=h.d6 (by simpa [up]using a);simp [up,this])
 case d9=>first | (simpa [up]using h.d9) | (intro a;have:=h.d9 (by simpa [up]using a);simp [up,this])
 case d10=>first | (simpa [up]using h.d10) | (intro a;have:=h.d10 (by simpa [up]using a);simp [up,this])
 case d12=>first | (simpa [up]using h.d12) | (intro a;have:=h.d12 (by simpa [up]using a);simp [up,this])
 case d13=>first | (simpa [up]using h.d13) | (intro a;have:=h.d13 (by simpa [up]using a);simp [up,this])
 case t4=>first | (simpa [up]using h.t4) | (intro a;have:=h.t4 (by simpa [up]using a);simp [up,this])
 case t5=>first | (simpa [up]using h.t5) | (intro a;have:=h.t5 (by simpa [up]using a);simp [up,this])
 case t6=>first | (simpa [up]using h.t6) | (intro a;have:=h.t6 (by simpa [up]using a);simp [up,this])
 case t7=>first | (simpa [up]using h.t7) | (intro a;have:=h.t7 (by simpa [up]using a);simp [up,this])
 case t11=>intro _;simp [up]
 case by8=>first | (simpa [up]using h.by8) | (intro a;have:=h.by8 (by simpa [up]using a);simp [up,this])
 case p9=>first | (simpa [up]using h.p9) | (intro a;have:=h.p9 (by simpa [up]using a);simp [up,this])
 case p10=>first | (simpa [up]using h.p10) | (intro a;have:=h.p10 (by simpa [up]using a);simp [up,this])
 case p12=>first | (simpa [up]using h.p12) | (intro a;have:=h.p12 (by simpa [up]using a);simp [up,this])
 case q6=>first | (simpa [up]using h.q6) | (intro a;have:=h.q6 (by simpa [up]using a);simp [up,this])
 case p13=>first | (simpa [up]using h.p13) | (intro a;have:=h.p13 (by simpa [up]using a);simp [up,this])
theorem Ins8.s6{w0:World}{base B n:Nat}{k:Int}{c:UInt8}{s0:Value}{fs:List (UInt8×List UInt8)}{l:Nat→Bool}{x:Nat→Value}{w:World}(h:Ins8 w0 base B n k c s0 fs l x w)(hk:([(4,82),(5,83)]:List (Int×Int)).lookup k=some (c.toNat:Int))(h3:l 3=true)(hl:l 6=false):(∃m,x 31=.map (some m)∧(Instr.lookup 294 (.map (some m)) (.int .i64 k) false).run Tryz.prog w=.ok (.int .i64 (c.toNat:Int)) w)∧Ins8 w0 base B n k c s0 fs (up l 6 true) (up x 34 (.int .i64 (c.toNat:Int))) w:=by
 obtain⟨h1,h2⟩:=h.d3 h3
 obtain⟨m,q,e1,e2,e3,e4,e5⟩:=h.mp (h.d1 h1) hl
 refine⟨⟨m,e5 h3,?_⟩,?_⟩
 ·rw [e3.look k,lookup_same (l':=[(4,82),(5,83)]) (fun p=>by rw [e4];simp [h1,h2]) (by decide) k,hk]
  rfl
 constructor
 case nw=>first | (simpa [up]using h.nw) | (intro a;have:=h.nw (by simpa [up]using a);simp [up,this])
 case mp=>intro _ a;simp [up]at a
 case d1=>first | (simpa [up]using h.d1) | (intro a;have:=h.d1 (by simpa [up]using a);simp [up,this])
 case d2=>first | (simpa [up]using h.d2) | (intro a;have:=h.d2 (by simpa [up]using a);simp [up,this])
 case d3=>first | (simpa [up]using h.d3) | (intro a;have:=h.d3 (by simpa [up]using a);simp [up,this])
 case d6=>intro _;simpa [up]using h3
 case d9=>first | (simpa [up]using h.d9) | (intro a;have:=h.d9 (by simpa [up]using a);simp [up,this])
 case d10=>first | (simpa [up]using h.d10) | (intro a;have:=h.d10 (by simpa [up]using a);simp [up,this])
 case d12=>first | (simpa [up]using h.d12) | (intro a;have:=h.d12 (by simpa [up]using a);simp [up,this])
 case d13=>first | (simpa [up]using h.d13) | (intro a;have:=h.d13 (by simpa [up]using a);simp [up,this])
 case t4=>first | (simpa [up]using h.t4) | (intro a;have:=h.t4 (by simpa [up]using a);simp [up,this])
 case t5=>first | (simpa [up]using h.t5) | (intro a;have:=h.t5 (by simpa [up]using a);simp [up,this])
 case t6=>intro _;simp [up]
 case t7=>first | (simpa [up]using h.t7) | (intro a;have:=h.t7 (by simpa [up]using a);simp [up,this])
 case t11=>first | (simpa [up]using h.t11) | (intro a;have:=h.t11 (by simpa [up]using a);simp [up,this])
 case by8=>intro a b;obtain⟨S,e1,e2,_⟩:=h.by8 (by simpa [up]using a) (by simpa [up]using b);exact⟨S,e1.imp (fun w h=>by simpa [up]using h),e2,fun m _ a=>by simp [up]at a⟩
 case p9=>first | (simpa [up]using h.p9) | (intro a;have:=h.p9 (by simpa [up]using a);simp [up,this])
 case p10=>first | (simpa [up]using h.p10) | (intro a;have:=h.p10 (by simpa [up]using a);simp [up,this])
 case p12=>first | (simpa [up]using h.p12) | (intro a;have:=h.p12 (by simpa [up]using a);simp [up,this])
 case q6=>first | (simpa [up]using h.q6) | (intro a;have:=h.q6 (by simpa [up]using a);simp [up,this])
 case p13=>first | (simpa [up]using h.p13) | (intro a;have:=h.p13 (by simpa [up]using a);simp [up,this])
theorem Ins8.s8{w0:World}{base B n:Nat}{k:Int}{c:UInt8}{s0:Value}{fs:List (UInt8×List UInt8)}{l:Nat→Bool}{x:Nat→Value}{w:World}{v:Value}(h:Ins8 w0 base B n k c s0 fs l x w){b0:Nat}(hb:w0.heap.size≤b0)(hm:∀m,l 0=true→l 6=false→x 30=.map (some m)→m<b0)(hv:Dep (fun b=>b0≤b) w (fun w=>SlB w v (beB 1 n)))(hl:l 8=false):Ins8 w0 base B n k c s0 fs (up l 8 true) (up x 36 v) w:=by
 have n9:l 9=false:=by cases e:l 9 with | false=>rfl | true=>rw [(h.d9 e).2]at hl;cases hl
 constructor
 case nw=>first | (simpa [up]using h.nw) | (intro a;have:=h.nw (by simpa [up]using a);simp [up,this])
 case mp=>first | (simpa [up]using h.mp) | (intro a;have:=h.mp (by simpa [up]using a);simp [up,this])
 case d1=>first | (simpa [up]using h.d1) | (intro a;have:=h.d1 (by simpa [up]using a);simp [up,this])
 case d2=>first | (simpa [up]using h.d2) | (intro a;have:=h.d2 (by simpa [up]using a);simp [up,this])
 case d3=>first | (simpa [up]using h.d3) | (intro a;have:=h.d3 (by simpa [up]using a);simp [up,this])
 case d6=>first | (simpa [up]using h.d6) | (intro a;have:=h.d6 (by simpa [up]using a);simp [up,this])
 case d9=>intro a;simp [up,n9]at a
 case d10=>first | (simpa [up]using h.d10) | (intro a;have:=h.d10 (by simpa [up]using a);simp [up,this])
 case d12=>first | (simpa [up]using h.d12) | (intro a;have:=h.d12 (by simpa [up]using a);simp [up,this])
 case d13=>first | (simpa [up]using h.d13) | (intro a;have:=h.d13 (by simpa [up]using a);simp [up,this])
 case t4=>first | (simpa [up]using h.t4) | (intro a;have:=h.t4 (by simpa [up]using a);simp [up,this])
 case t5=>first | (simpa [up]using h.t5) | (intro a;have:=h.t5 (by simpa [up]using a);simp [up,this])
 case t6=>first | (simpa [up]using h.t6) | (intro a;have:=h.t6 (by simpa [up]using a);simp [up,this])
 case t7=>first | (simpa [up]using h.t7) | (intro a;have:=h.t7 (by simpa [up]using a);simp [up,this])
 case t11=>first | (simpa [up]using h.t11) | (intro a;have:=h.t11 (by simpa [up]using a);simp [up,this])
 case by8=>
  intro _ _
  exact⟨fun b=>b0≤b,hv.imp (fun w' h'=>by simpa [up]using h'),fun b hb'=>Nat.le_trans hb hb',fun m a a' b hS=>by have:=hm m (by simpa [up]using a) (by simpa [up]using a') (by simpa [up]using b);omega⟩
 case p9=>first | (simpa [up]using h.p9) | (intro a;have:=h.p9 (by simpa [up]using a);simp [up,this])
 case p10=>first | (simpa [up]using h.p10) | (intro a;have:=h.p10 (by simpa [up]using a);simp [up,this])
 case p12=>first | (simpa [up]using h.p12) | (intro a;have:=h.p12 (by simpa [up]using a);simp [up,this])
 case q6=>first | (simpa [up]using h.q6) | (intro a;have:=h.q6 (by simpa [up]using a);simp [up,this])
 case p13=>first | (simpa [up]using h.p13) | (intro a;have:=h.p13 (by simpa [up]using a);simp [up,this])
theorem Ins8.s9{w0:World}{base B n:Nat}{k:Int}{c:UInt8}{s0:Value}{fs:List (UInt8×List UInt8)}{l:Nat→Bool}{x:Nat→Value}{w:World}(h:Ins8 w0 base B n k c s0 fs l x w)(h6:l 6=true)(h8:l 8=true)(hl:l 9=false):Ins8 w0 base B n k c s0 fs (up l 9 true) (up x 37 (.agg #[x 34,x 36])) w:=by
 have n10:l 10=false:=by cases e:l 10 with | false=>rfl | true=>rw [h.d10 e]at hl;cases hl
 constructor
 case nw=>first | (simpa [up]using h.nw) | (intro a;have:=h.nw (by simpa [up]using a);simp [up,this])
 case mp=>first | (simpa [up]using h.mp) | (intro a;have:=h.mp (by simpa [up]using a);simp [up,this])
 case d1=>first | (simpa [up]using h.d1) | (intro a;have:=h.d1 (by simpa [up]using a);simp [up,this])
 case d2=>first | (simpa [up]using h.d2) | (intro a;have:=h.d2 (by simpa [up]using a);simp [up,this])
 case d3=>first | (simpa [up]using h.d3) | (intro a;have:=h.d3 (by simpa [up]using a);simp [up,this])
 case d6=>first | (simpa [up]using h.d6) | (intro a;have:=h.d6 (by simpa [up]using a);simp [up,this])
 case d9=>intro _;simp [up,h6,h8]
 case d10=>first | (simpa [up]using h.d10) | (intro a;have:=h.d10 (by simpa [up]using a);simp [up,this])
 case d12=>first | (simpa [up]using h.d12) | (intro a;have:=h.d12 (by simpa [up]using a);simp [up,this])
 case d13=>first | (simpa [up]using h.d13) | (intro a;have:=h.d13 (by simpa [up]using a);simp [up,this])
 case t4=>first | (simpa [up]using h.t4) | (intro a;have:=h.t4 (by simpa [up]using a);simp [up,this])
 case t5=>first | (simpa [up]using h.t5) | (intro a;have:=h.t5 (by simpa [up]using a);simp [up,this])
 case t6=>first | (simpa [up]using h.t6) | (intro a;have:=h.t6 (by simpa [up]using a);simp [up,this])
 case t7=>first | (simpa [up]using h.t7) | (intro a;have:=h.t7 (by simpa [up]using a);simp [up,this])
 case t11=>first | (simpa [up]using h.t11) | (intro a;have:=h.t11 (by simpa [up]using a);simp [up,this])
 case by8=>intro _ a;simp [up]at a
 case p9=>
  intro _ _
  obtain⟨S,e1,e2,_⟩:=h.by8 h8 hl
  exact⟨x 36,by simp [up,h.t6 h6],e1.mono fun b _ hb=>e2 b hb⟩
 case p10=>first | (simpa [up]using h.p10) | (intro a;have:=h.p10 (by simpa [up]using a);simp [up,this])
 case p12=>first | (simpa [up]using h.p12) | (intro a;have:=h.p12 (by simpa [up]using a);simp [up,this])
 case q6=>first | (simpa [up]using h.q6) | (intro a;have:=h.q6 (by simpa [up]using a);simp [up,this])
 case p13=>first | (simpa [up]using h.p13) | (intro a;have:=h.p13 (by simpa [up]using a);simp [up,this])
theorem Ins8.s10{w0:World}{base B n:Nat}{k:Int}{c:UInt8}{s0:Value}{fs:List (UInt8×List UInt8)}{l:Nat→Bool}{x:Nat→Value}{w:World}(h:Ins8 w0 base B n k c s0 fs l x w)(h9:l 9=true)(hl:l 10=false):∃v,x 37=.agg #[.int .i64 (c.toNat:Int),v]∧(∃A m cc,v=.slice A m cc)∧Ins8 w0 base B n k c s0 fs (up l 10 true) (up x 38 (.slice (some ⟨w.heap.size,0,none⟩) 1 1)) (w.alloc (.cells #[.int .i64 (c.toNat:Int),v] 143)):=by
 have n12:l 12=false:=by cases e:l 12 with | false=>rfl | true=>rw [(h.d12 e).1]at hl;cases hl
 obtain⟨v,e1,e2⟩:=h.p9 h9 hl
 have kN:=(Keep.refl (fun _=>True) w).alloc (.cells #[.int .i64 (c.toNat:Int),v] 143)
 have g:=h.world kN
 refine⟨v,e1,(let ⟨A,cc,e,_⟩:=e2.here;⟨A,_,cc,e⟩),?_⟩
 constructor
 case nw=>first | (simpa [up]using g.nw) | (intro a;have:=h.nw (by simpa [up]using a);simp [up,this])
 case mp=>first | (simpa [up]using g.mp) | (intro a;have:=h.mp (by simpa [up]using a);simp [up,this])
 case d1=>first | (simpa [up]using g.d1) | (intro a;have:=h.d1 (by simpa [up]using a);simp [up,this])
 case d2=>first | (simpa [up]using g.d2) | (intro a;have:=h.d2 (by simpa [up]using a);simp [up,this])
 case d3=>first | (simpa [up]using g.d3) | (intro a;have:=h.d3 (by simpa [up]using a);simp [up,this])
 case d6=>first | (simpa [up]using g.d6) | (intro a;have:=h.d6 (by simpa [up]using a);simp [up,this])
 case d9=>first | (simpa [up]using g.d9) | (intro a;have:=h.d9 (by simpa [up]using a);simp [up,this])
 case d10=>intro _;simp [up,h9]
 case d12=>first | (simpa [up]using g.d12) | (intro a;have:=h.d12 (by simpa [up]using a);simp [up,this])
 case d13=>first | (simpa [up]using g.d13) | (intro a;have:=h.d13 (by simpa [up]using a);simp [up,this])
 case t4=>first | (simpa [up]using g.t4) | (intro a;have:=h.t4 (by simpa [up]using a);simp [up,this])
 case t5=>first | (simpa [up]using g.t5) | (intro a;have:=h.t5 (by simpa [up]using a);simp [up,this])
 case t6=>first | (simpa [up]using g.t6) | (intro a;have:=h.t6 (by simpa [up]using a);simp [up,this])
 case t7=>first | (simpa [up]using g.t7) | (intro a;have:=h.t7 (by simpa [up]using a);simp [up,this])
 case t11=>first | (simpa [up]using g.t11) | (intro a;have:=h.t11 (by simpa [up]using a);simp [up,this])
 case by8=>first | (simpa [up]using g.by8) | (intro a;have:=h.by8 (by simpa [up]using a);simp [up,this])
 case p9=>intro _ a;simp [up]at a
 case p10=>
  intro _ _
  refine⟨[.int .i64 (c.toNat:Int),v],⟨rfl,.inr ⟨w.heap.size,1,#[.int .i64 (c.toNat:Int),v],by simp [up],h.nw.size,blk_new w _,Nat.le_refl _,by unfold maxLen;omega,rfl,rfl⟩⟩,?_⟩
  exact(e2.step kN.size (fun i hi _=>kN.block i hi trivial) (fun b hb hok=>⟨hok,fun e=>by simp [up,Value.ownBlock]at e;omega⟩)).imp fun w h=>Pcs.cons h.toC .nil
 case p12=>first | (simpa [up]using g.p12) | (intro a;have:=h.p12 (by simpa [up]using a);simp [up,this])
 case q6=>first | (simpa [up]using g.q6) | (intro a;have:=h.q6 (by simpa [up]using a);simp [up,this])
 case p13=>first | (simpa [up]using g.p13) | (intro a;have:=h.p13 (by simpa [up]using a);simp [up,this])
theorem Ins8.s12{w0:World}{base B n:Nat}{k:Int}{c:UInt8}{s0:Value}{fs:List (UInt8×List UInt8)}{l:Nat→Bool}{x:Nat→Value}{w:World}(h:Ins8 w0 base B n k c s0 fs l x w)(hb:base≤w0.heap.size)(hrow:RowG 143 2 Pcs w0 base s0 fs)(hfs:0<fs.length)(hfs2:fs.length≤1000)(h10:l 10=true)(h11:l 11=true)(hl:l 12=false):∃r w',(Builtin.append_ #[140,140] 140 #[x 38,s0]).run Tryz.prog w=.ok r w'∧Ins8 w0 base B n k c s0 fs (up l 12 true) (up x 40 r) w':=by
 have h9:=h.d10 h10
 obtain⟨h6,h8⟩:=h.d9 h9
 have n13:l 13=false:=by cases e:l 13 with | false=>rfl | true=>rw [h.d13 e]at hl;cases hl
 have row:=h.p10 h10 hl
 have kk:=h.nw
 obtain⟨cells,ho,hd⟩:=hrow
 have hsl:=(slG_own ho).keep kk
 obtain⟨A,cc,hs0⟩:∃A cc,s0=.slice A fs.length cc:=(let ⟨A,cc,e,_⟩:=hsl.shape;⟨A,cc,e⟩)
 have hs1:=hs0
 rw [hs0]at hsl
 obtain⟨d,i,hA,_,_,_,hcell⟩:=hsl.at (by omega)
 have hlen:=pieceCells.len hd.here
 have hown:=row.far
 obtain⟨g,cap,w',hr,hrow',k',hg⟩:=(row.mono hb).step pieceCells (vs:=fs) Tryz.underlying140 info143 rfl (by omega) (by omega) d i cc cells (fun j u hj=>hcell j u (by rw [←hlen];exact(List.getElem?_eq_some_iff.1 hj).1) hj)
  (hd.step kk.size (fun i hi _=>kk.block i hi trivial) (fun b hb' hok=>⟨hok.1,hown b hb'⟩)) hfs (by simp;omega) (Nat.le_trans hb kk.size)
 refine⟨_,w',by rw [hs0,hA];exact hr,?_⟩
 constructor
 case nw=>exact kk.then k' (fun i hi _=>hown i hi)
 case mp=>intro _ a;simp [up,h6]at a
 case d1=>first | (simpa [up]using h.d1) | (intro a;have:=h.d1 (by simpa [up]using a);simp [up,this])
 case d2=>first | (simpa [up]using h.d2) | (intro a;have:=h.d2 (by simpa [up]using a);simp [up,this])
 case d3=>first | (simpa [up]using h.d3) | (intro a;have:=h.d3 (by simpa [up]using a);simp [up,this])
 case d6=>first | (simpa [up]using h.d6) | (intro a;have:=h.d6 (by simpa [up]using a);simp [up,this])
 case d9=>first | (simpa [up]using h.d9) | (intro a;have:=h.d9 (by simpa [up]using a);simp [up,this])
 case d10=>first | (simpa [up]using h.d10) | (intro a;have:=h.d10 (by simpa [up]using a);simp [up,this])
 case d12=>intro _;simp [up,h10,h11]
 case d13=>intro a;simp [up,n13]at a
 case t4=>first | (simpa [up]using h.t4) | (intro a;have:=h.t4 (by simpa [up]using a);simp [up,this])
 case t5=>first | (simpa [up]using h.t5) | (intro a;have:=h.t5 (by simpa [up]using a);simp [up,this])
 case t6=>first | (simpa [up]using h.t6) | (intro a;have:=h.t6 (by simpa [up]using a);simp [up,this])
 case t7=>first | (simpa [up]using h.t7) | (intro a;have:=h.t7 (by simpa [up]using a);simp [up,this])
 case t11=>first | (simpa [up]using h.t11) | (intro a;have:=h.t11 (by simpa [up]using a);simp [up,this])
 case by8=>intro _ a;simp [up,h9]at a
 case p9=>intro _ a;simp [up,h10]at a
 case p10=>intro _ a;simp [up]at a
 case p12=>
  intro _
  have e:up x 40 (.slice (some ⟨g,0,none⟩) ([(c,beB 1 n)].length+fs.length) cap) 40=.slice (some ⟨g,0,none⟩) ([(c,beB 1 n)].length+fs.length) cap:=by simp [up]
  rw [e]
  exact hrow'
 case q6=>first | (simpa [up]using h.q6) | (intro a;have:=h.q6 (by simpa [up]using a);simp [up,this])
 case p13=>intro a;simp [up,n13]at a
theorem Ins8.s13{w0:World}{base B n:Nat}{k:Int}{c:UInt8}{s0:Value}{fs:List (UInt8×List UInt8)}{l:Nat→Bool}{x:Nat→Value}{w:World}(h:Ins8 w0 base B n k c s0 fs l x w)(h12:l 12=true):Ins8 w0 base B n k c s0 fs (up l 13 true) (up x 6 (x 40)) w:=by
 constructor
 case nw=>first | (simpa [up]using h.nw) | (intro a;have:=h.nw (by simpa [up]using a);simp [up,this])
 case mp=>first | (simpa [up]using h.mp) | (intro a;have:=h.mp (by simpa [up]using a);simp [up,this])
 case d1=>first | (simpa [up]using h.d1) | (intro a;have:=h.d1 (by simpa [up]using a);simp [up,this])
 case d2=>first | (simpa [up]using h.d2) | (intro a;have:=h.d2 (by simpa [up]using a);simp [up,this])
 case d3=>first | (simpa [up]using h.d3) | (intro a;have:=h.d3 (by simpa [up]using a);simp [up,this])
 case d6=>first | (simpa [up]using h.d6) | (intro a;have:=h.d6 (by simpa [up]using a);simp [up,this])
 case d9=>first | (simpa [up]using h.d9) | (intro a;have:=h.d9 (by simpa [up]using a);simp [up,this])
 case d10=>first | (simpa [up]using h.d10) | (intro a;have:=h.d10 (by simpa [up]using a);simp [up,this])
 case d12=>first | (simpa [up]using h.d12) | (intro a;have:=h.d12 (by simpa [up]using a);simp [up,this])
 case d13=>intro _;simp [up,h12]
 case t4=>first | (simpa [up]using h.t4) | (intro a;have:=h.t4 (by simpa [up]using a);simp [up,this])
 case t5=>first | (simpa [up]using h.t5) | (intro a;have:=h.t5 (by simpa [up]using a);simp [up,this])
 case t6=>first | (simpa [up]using h.t6) | (intro a;have:=h.t6 (by simpa [up]using a);simp [up,this])
 case t7=>first | (simpa [up]using h.t7) | (intro a;have:=h.t7 (by simpa [up]using a);simp [up,this])
 case t11=>first | (simpa [up]using h.t11) | (intro a;have:=h.t11 (by simpa [up]using a);simp [up,this])
 case by8=>first | (simpa [up]using h.by8) | (intro a;have:=h.by8 (by simpa [up]using a);simp [up,this])
 case p9=>first | (simpa [up]using h.p9) | (intro a;have:=h.p9 (by simpa [up]using a);simp [up,this])
 case p10=>first | (simpa [up]using h.p10) | (intro a;have:=h.p10 (by simpa [up]using a);simp [up,this])
 case p12=>first | (simpa [up]using h.p12) | (intro a;have:=h.p12 (by simpa [up]using a);simp [up,this])
 case q6=>intro a;simp [up]at a
 case p13=>intro _;simp [up]
theorem ins_region_8{Q:Exit→Act→World→Prop}{F:Act}{w:World}{base B n:Nat}{k:Int}{c:UInt8}{s0:Value}{fs:List (UInt8×List UInt8)}(hF:F.tmps.size=73)(t1:F.eval (.tmp 1)=.pointer (some ⟨B,0,none⟩))(t3:F.eval (.tmp 3)=.int .u64 (n:Int))(t6:F.eval (.tmp 6)=s0)
 (hB:w.cell? ⟨B,0,none⟩=some (.int .i64 k)) (hn:n<18446744073709551616) (hk:([(4,82),(5,83)]:List (Int×Int)).lookup k=some (c.toNat:Int)) (hb:base≤w.heap.size) (hrow:RowG 143 2 Pcs w base s0 fs) (hfs:0<fs.length) (hfs2:fs.length≤1000)
 (hQ:∀a' w',Agrees F [6,30,31,32,33,34,35,36,37,38,39,40] a'→New w w'→RowG 143 2 Pcs w' base (a'.eval (.tmp 6)) ((c,beB 1 n)::fs)→Q .normal a' w'):
 (Code.region 8 #[{ dst:=some 30,op:=Op.makeMap 294 none,type:=294,pos:= "amqp.go:43",after:=#[],guard:=none },{ dst:=none,op:=Op.insert 294 (Operand.tmp 30) (Operand.const (Value.int IntKind.i64 4)) (Operand.const (Value.int IntKind.i64 82)),type:=0,pos:= "amqp.go:43",after:=#[{ on:=0,ground:=Ground.data }],guard:=none },{ dst:=none,op:=Op.insert 294 (Operand.tmp 30) (Operand.const (Value.int IntKind.i64 5)) (Operand.const (Value.int IntKind.i64 83)),type:=0,pos:= "amqp.go:43",after:=#[{ on:=0,ground:=Ground.data }],guard:=none },{ dst:=some 31,op:=Op.move (Operand.tmp 30),type:=294,pos:= "amqp.go:43",after:=#[{ on:=0,ground:=Ground.data },{ on:=1,ground:=Ground.data },{ on:=2,ground:=Ground.data }],guard:=none },{ dst:=some 32,op:=Op.fieldAddr 78 (Operand.tmp 1) 0,type:=0,pos:= "amqp.go:43",after:=#[],guard:=none },{ dst:=some 33,op:=Op.load 3 (Operand.tmp 32),type:=3,pos:= "amqp.go:43",after:=#[{ on:=4,ground:=Ground.data }],guard:=none },{ dst:=some 34,op:=Op.lookup 294 (Operand.tmp 31) (Operand.tmp 33) false,type:=3,pos:= "amqp.go:43",after:=#[{ on:=3,ground:=Ground.data },{ on:=5,ground:=Ground.data }],guard:=none },{ dst:=some 35,op:=Op.move (Operand.tmp 3),type:=26,pos:= "amqp.go:43",after:=#[],guard:=none },{ dst:=some 36,op:=Op.call { callee:=Callee.value (Operand.func 133),args:=#[Operand.tmp 35,Operand.const (Value.int IntKind.i64 1)],argTypes:=#[26,3] },type:=27,pos:= "amqp.go:43",after:=#[{ on:=7,ground:=Ground.data }],guard:=none },{ dst:=some 37,op:=Op.build 143 #[(0,Operand.tmp 34),(1,Operand.tmp 36)],type:=143,pos:= "amqp.go:43",after:=#[{ on:=6,ground:=Ground.data },{ on:=8,ground:=Ground.data }],guard:=none },{ dst:=some 38,op:=Op.buildSlice 140 1 #[(0,Operand.tmp 37)],type:=140,pos:= "amqp.go:43",after:=#[{ on:=9,ground:=Ground.data }],guard:=none },{ dst:=some 39,op:=Op.move (Operand.tmp 6),type:=140,pos:= "amqp.go:43",after:=#[],guard:=none },{ dst:=some 40,op:=Op.call { callee:=Callee.builtin Builtin.append,args:=#[Operand.tmp 38,Operand.tmp 39],argTypes:=#[140,140] },type:=140,pos:= "amqp.go:43",after:=#[{ on:=10,ground:=Ground.data },{ on:=11,ground:=Ground.data },{ on:=8,ground:=Ground.chain }],guard:=none },{ dst:=some 6,op:=Op.assign (Operand.tmp 40),type:=140,pos:= "amqp.go:43",after:=#[{ on:=12,ground:=Ground.data },{ on:=12,ground:=Ground.chain },{ on:=0,ground:=Ground.phase },{ on:=1,ground:=Ground.phase },{ on:=2,ground:=Ground.phase },{ on:=3,ground:=Ground.phase },{ on:=4,ground:=Ground.phase },{ on:=5,ground:=Ground.phase },{ on:=6,ground:=Ground.phase },{ on:=7,ground:=Ground.phase },{ on:=8,ground:=Ground.phase },{ on:=9,ground:=Ground.phase },{ on:=10,ground:=Ground.phase },{ on:=11,ground:=Ground.phase },{ on:=12,ground:=Ground.phase }],guard:=none }] true).wp Tryz.prog Q F w:=by
 refine region_inv (by kernel_rfl) (fun L a w'=>Agrees F [6,30,31,32,33,34,35,36,37,38,39,40] a∧Ins8 w base B n k c s0 fs (fun j=>L.getD j false) (fun t=>a.eval (.tmp t)) w') (by kernel_rfl) ?start ?step ?fin
 case start=>
  refine⟨Agrees.refl F _,?_⟩
  constructor
  case nw=>exact(Keep.refl _ w).drew
  case q6=>intro _;exact t6
  all_goals (intro a;try simp only [rep_off]at a;cases a)
 case fin=>
  intro L a w' hall hI
  have h12:=hI.2.p12 (hall 12 (by simp))
  rw [←hI.2.p13 (hall 13 (by simp))]at h12
  exact hQ a w' hI.1 hI.2.nw h12
 case step=>
  intro i o L a w' ho hd hL hs hI
  have hi:=(Array.getElem?_eq_some_iff.1 ho).1
  simp only [List.size_toArray,List.length_cons,List.length_nil]at hi hs
  have kput:∀i,i<14→∀d,d<73→d∈[6,30,31,32,33,34,35,36,37,38,39,40]→∀(v:Value) {w2:World},Ins8 w base B n k c s0 fs (up (fun j=>L.getD j false) i true) (up (fun t=>a.eval (.tmp t)) d v) w2→Agrees F [6,30,31,32,33,34,35,36,37,38,39,40] (a.put (some d) v)∧Ins8 w base B n k c s0 fs (fun j=>(L.setIfInBounds i true).getD j false) (fun t=>(a.put (some d) v).eval (.tmp t)) w2:=fun i hi d hd hm v w2 h=>⟨hI.1.put hm,by rw [up_L (by omega),up_x (by rw [hI.1.size,hF];exact hd)];exact h⟩
  have kno:∀i,i<14→∀{w2:World},Ins8 w base B n k c s0 fs (up (fun j=>L.getD j false) i true) (fun t=>a.eval (.tmp t)) w2→Agrees F [6,30,31,32,33,34,35,36,37,38,39,40] (a.put none undef)∧Ins8 w base B n k c s0 fs (fun j=>(L.setIfInBounds i true).getD j false) (fun t=>(a.put none undef).eval (.tmp t)) w2:=fun i hi w2 h=>⟨hI.1,by rw [up_L (by omega)];exact h⟩
  have hi':i=0∨i=1∨i=2∨i=3∨i=4∨i=5∨i=6∨i=7∨i=8∨i=9∨i=10∨i=11∨i=12∨i=13:=by omega
  clear hi
  rcases hi' with rfl | rfl | rfl | rfl | rfl | rfl | rfl | rfl | rfl | rfl | rfl | rfl | rfl | rfl
  ·have ho':=ho
   simp only [List.getElem?_toArray,List.getElem?_cons_zero,List.getElem?_cons_succ,Option.some.injEq]at ho
   refine wpOp_in ho' (by rw [←ho]) ?_
   subst ho
   clear ho'
   simp only [Oper.wp,execOp,Sem.run_bind,make294,Result.andThen_ok,Sem.run_pure,Oper.upon_value]
   exact kput 0 (by decide) 30 (by decide) (by decide) _ (hI.2.s0 hL)
  ·have ho':=ho
   simp only [List.getElem?_toArray,List.getElem?_cons_zero,List.getElem?_cons_succ,Option.some.injEq]at ho
   refine wpOp_in ho' (by rw [←ho]) ?_
   subst ho
   clear ho'
   obtain⟨m,w2,e1,e2,e3⟩:=hI.2.s1 (hd ⟨0,.data⟩ (by simp) rfl) hL
   have e4:a.eval (.const (.int .i64 4))=.int .i64 4:=rfl
   have e5:a.eval (.const (.int .i64 82))=.int .i64 82:=rfl
   simp only [Oper.wp,execOp,Sem.run_bind,e1,e4,e5,e2,Result.andThen_ok,Sem.run_pure,Oper.upon_skip]
   exact kno 1 (by decide) e3
  ·have ho':=ho
   simp only [List.getElem?_toArray,List.getElem?_cons_zero,List.getElem?_cons_succ,Option.some.injEq]at ho
   refine wpOp_in ho' (by rw [←ho]) ?_
   subst ho
   clear ho'
   obtain⟨m,w2,e1,e2,e3⟩:=hI.2.s2 (hd ⟨0,.data⟩ (by simp) rfl) hL
   have e4:a.eval (.const (.int .i64 5))=.int .i64 5:=rfl
   have e5:a.eval (.const (.int .i64 83))=.int .i64 83:=rfl
   simp only [Oper.wp,execOp,Sem.run_bind,e1,e4,e5,e2,Result.andThen_ok,Sem.run_pure,Oper.upon_skip]
   exact kno 2 (by decide) e3
  ·have ho':=ho
   simp only [List.getElem?_toArray,List.getElem?_cons_zero,List.getElem?_cons_succ,Option.some.injEq]at ho
   refine wpOp_in ho' (by rw [←ho]) ?_
   subst ho
   clear ho'
   simp only [Oper.wp,execOp,Sem.run_bind,Result.andThen_ok,Sem.run_pure,Oper.upon_value]
   exact kput 3 (by decide) 31 (by decide) (by decide) _ (hI.2.s3 (hd ⟨0,.data⟩ (by simp) rfl) (hd ⟨1,.data⟩ (by simp) rfl) (hd ⟨2,.data⟩ (by simp) rfl) hL)
  ·have ho':=ho
   simp only [List.getElem?_toArray,List.getElem?_cons_zero,List.getElem?_cons_succ,Option.some.injEq]at ho
   refine wpOp_in ho' (by rw [←ho]) ?_
   subst ho
   clear ho'
   have e0:a.eval (.tmp 1)=.pointer (some ⟨B,0,none⟩):=hI.1.keep 1 (by decide)▸t1
   have hr:(execOp a.eval { dst:=some 32,op:=Op.fieldAddr 78 (Operand.tmp 1) 0,type:=0,pos:= "amqp.go:43",after:=#[],guard:=none }).run Tryz.prog w'=.ok (.value (.pointer (some ⟨B,0,none⟩))) w':=by
    simp only [execOp,e0]
    simp [go_sem]
   simp only [Oper.wp,hr,Oper.upon_value]
   exact kput 4 (by decide) 32 (by decide) (by decide) _ hI.2.s4
  ·have ho':=ho
   simp only [List.getElem?_toArray,List.getElem?_cons_zero,List.getElem?_cons_succ,Option.some.injEq]at ho
   refine wpOp_in ho' (by rw [←ho]) ?_
   subst ho
   clear ho'
   have e0:=hI.2.t4 (hd ⟨4,.data⟩ (by simp) rfl)
   have hB':=hI.2.nw.cell hB trivial
   have hr:(execOp a.eval { dst:=some 33,op:=Op.load 3 (Operand.tmp 32),type:=3,pos:= "amqp.go:43",after:=#[{ on:=4,ground:=Ground.data }],guard:=none }).run Tryz.prog w'=.ok (.value (.int .i64 k)) w':=by
    simp only [execOp,e0]
    simp [go_sem,hB']
   simp only [Oper.wp,hr,Oper.upon_value]
   exact kput 5 (by decide) 33 (by decide) (by decide) _ hI.2.s5
  ·have ho':=ho
   simp only [List.getElem?_toArray,List.getElem?_cons_zero,List.getElem?_cons_succ,Option.some.injEq]at ho
   refine wpOp_in ho' (by rw [←ho]) ?_
   subst ho
   clear ho'
   obtain⟨⟨m,e1,e2⟩,e3⟩:=hI.2.s6 hk (hd ⟨3,.data⟩ (by simp) rfl) hL
   have e0:=hI.2.t5 (hd ⟨5,.data⟩ (by simp) rfl)
   simp only [Oper.wp,execOp,Sem.run_bind,e0,e1,e2,Result.andThen_ok,Sem.run_pure,Oper.upon_value]
   exact kput 6 (by decide) 34 (by decide) (by decide) _ e3
  ·have ho':=ho
   simp only [List.getElem?_toArray,List.getElem?_cons_zero,List.getElem?_cons_succ,Option.some.injEq]at ho
   refine wpOp_in ho' (by rw [←ho]) ?_
   subst ho
   clear ho'
   have e0:a.eval (.tmp 3)=.int .u64 (n:Int):=hI.1.keep 3 (by decide)▸t3
   simp only [Oper.wp,execOp,Sem.run_bind,e0,Result.andThen_ok,Sem.run_pure,Oper.upon_value]
   exact kput 7 (by decide) 35 (by decide) (by decide) _ hI.2.s7
  ·have ho':=ho
   simp only [List.getElem?_toArray,List.getElem?_cons_zero,List.getElem?_cons_succ,Option.some.injEq]at ho
   refine wpOp_in ho' (by rw [←ho]) ?_
   subst ho
   clear ho'
   have e0:=hI.2.t7 (hd ⟨7,.data⟩ (by simp) rfl)
   have hr:(execOp a.eval { dst:=some 36,op:=Op.call { callee:=Callee.value (Operand.func 133),args:=#[Operand.tmp 35,Operand.const (Value.int IntKind.i64 1)],argTypes:=#[26,3] },type:=27,pos:= "amqp.go:43",after:=#[{ on:=7,ground:=Ground.data }],guard:=none }).run Tryz.prog w'=.ok (.enter 133 #[.int .u64 (n:Int),.int .i64 1]) w':=by
    simp [execOp,resolve,go_sem]
    simpa [Act.eval]using e0
   simp only [Oper.wp,hr,Oper.upon]
   refine(big_is n 1 hn (by decide) w').mono ?_
   rintro e w2 ⟨v,rfl,kv,hv⟩
   exact kput 8 (by decide) 36 (by decide) (by decide) _ ((hI.2.world kv).s8 hI.2.nw.size (fun m a a' b=>(hI.2.map_lt a a' b)) hv.out hL)
  ·have ho':=ho
   simp only [List.getElem?_toArray,List.getElem?_cons_zero,List.getElem?_cons_succ,Option.some.injEq]at ho
   refine wpOp_in ho' (by rw [←ho]) ?_
   subst ho
   clear ho'
   have e6:=hI.2.t6 (hd ⟨6,.data⟩ (by simp) rfl)
   have e8:∃A m cc,a.eval (.tmp 36)=.slice A m cc:=(let ⟨S,e1,_⟩:=hI.2.by8 (hd ⟨8,.data⟩ (by simp) rfl) hL;let ⟨A,cc,e,_⟩:=e1.here;⟨A,_,cc,e⟩)
   obtain⟨A,m,cc,e8⟩:=e8
   have e9:=hI.2.s9 (hd ⟨6,.data⟩ (by simp) rfl) (hd ⟨8,.data⟩ (by simp) rfl) hL
   simp only [e6,e8]at e9
   have hr:(execOp a.eval { dst:=some 37,op:=Op.build 143 #[(0,Operand.tmp 34),(1,Operand.tmp 36)],type:=143,pos:= "amqp.go:43",after:=#[{ on:=6,ground:=Ground.data },{ on:=8,ground:=Ground.data }],guard:=none }).run Tryz.prog w'=.ok (.value (.agg #[.int .i64 (c.toNat:Int),.slice A m cc])) w':=by
    simp only [execOp,List.map_toArray,List.map_cons,List.map_nil,e6,e8,Sem.run_bind,build143,Result.andThen_ok,Sem.run_pure]
   simp only [Oper.wp,hr,Oper.upon_value]
   exact kput 9 (by decide) 37 (by decide) (by decide) _ e9
  ·have ho':=ho
   simp only [List.getElem?_toArray,List.getElem?_cons_zero,List.getElem?_cons_succ,Option.some.injEq]at ho
   refine wpOp_in ho' (by rw [←ho]) ?_
   subst ho
   clear ho'
   obtain⟨v,e1,e2,e3⟩:=hI.2.s10 (hd ⟨9,.data⟩ (by simp) rfl) hL
   have hr:(execOp a.eval { dst:=some 38,op:=Op.buildSlice 140 1 #[(0,Operand.tmp 37)],type:=140,pos:= "amqp.go:43",after:=#[{ on:=9,ground:=Ground.data }],guard:=none }).run Tryz.prog w'=.ok (.value (.slice (some ⟨w'.heap.size,0,none⟩) 1 1)) (w'.alloc (.cells #[.int .i64 (c.toNat:Int),v] 143)):=by
    obtain⟨A,m,cc,rfl⟩:=e2
    simp only [execOp,List.map_toArray,List.map_cons,List.map_nil,e1,Sem.run_bind,slice143,Result.andThen_ok,Sem.run_pure]
   simp only [Oper.wp,hr,Oper.upon_value]
   exact kput 10 (by decide) 38 (by decide) (by decide) _ e3
  ·have ho':=ho
   simp only [List.getElem?_toArray,List.getElem?_cons_zero,List.getElem?_cons_succ,Option.some.injEq]at ho
   refine wpOp_in ho' (by rw [←ho]) ?_
   subst ho
   clear ho'
   have e0:a.eval (.tmp 6)=s0:=hI.2.q6 (by cases e:L.getD 13 false with | false=>rfl | true=>rw [(hI.2.d12 (hI.2.d13 e)).2]at hL;cases hL)
   simp only [Oper.wp,execOp,Sem.run_bind,e0,Result.andThen_ok,Sem.run_pure,Oper.upon_value]
   exact kput 11 (by decide) 39 (by decide) (by decide) _ hI.2.s11
  ·have ho':=ho
   simp only [List.getElem?_toArray,List.getElem?_cons_zero,List.getElem?_cons_succ,Option.some.injEq]at ho
   refine wpOp_in ho' (by rw [←ho]) ?_
   subst ho
   clear ho'
   obtain⟨r,w2,e1,e2⟩:=hI.2.s12 hb hrow hfs hfs2 (hd ⟨10,.data⟩ (by simp) rfl) (hd ⟨11,.data⟩ (by simp) rfl) hL
   have e0:=hI.2.t11 (hd ⟨11,.data⟩ (by simp) rfl)
   have hr:(execOp a.eval { dst:=some 40,op:=Op.call { callee:=Callee.builtin Builtin.append,args:=#[Operand.tmp 38,Operand.tmp 39],argTypes:=#[140,140] },type:=140,pos:= "amqp.go:43",after:=#[{ on:=10,ground:=Ground.data },{ on:=11,ground:=Ground.data },{ on:=8,ground:=Ground.chain }],guard:=none }).run Tryz.prog w'=.ok (.value r) w2:=by
    unfold execOp
    simp only [resolve,invoke,builtin,Sem.run_bind,Sem.run_pure,Result.andThen_ok,List.map_toArray,List.map_cons,List.map_nil,e0,e1]
   simp only [Oper.wp,hr,Oper.upon_value]
   exact kput 12 (by decide) 40 (by decide) (by decide) _ e2
  ·have ho':=ho
   simp only [List.getElem?_toArray,List.getElem?_cons_zero,List.getElem?_cons_succ,Option.some.injEq]at ho
   refine wpOp_in ho' (by rw [←ho]) ?_
   subst ho
   clear ho'
   simp only [Oper.wp,execOp,Sem.run_bind,Result.andThen_ok,Sem.run_pure,Oper.upon_value]
   exact kput 13 (by decide) 6 (by decide) (by decide) _ (hI.2.s13 (hd ⟨12,.data⟩ (by simp) rfl))
structure Ins14(w0:World)(base B n:Nat)(k:Int)(c:UInt8)(s0:Value)(fs:List (UInt8×List UInt8))(l:Nat→Bool)(x:Nat→Value)(w:World):Prop where
 nw:New w0 w
 mp:l 0=true→l 6=false→∃m q,x 61=.map (some m)∧w0.heap.size≤m∧IntMap w m q∧(∀p,p∈q↔(p=(8,84)∧l 1=true)∨(p=(9,85)∧l 2=true))∧(l 3=true→x 62=.map (some m))
 d1:l 1=true→l 0=true
 d2:l 2=true→l 0=true
 d3:l 3=true→l 1=true∧l 2=true
 d6:l 6=true→l 3=true
 d9:l 9=true→l 6=true∧l 8=true
 d10:l 10=true→l 9=true
 d12:l 12=true→l 10=true∧l 11=true
 d13:l 13=true→l 12=true
 t4:l 4=true→x 63=.pointer (some ⟨B,0,none⟩)
 t5:l 5=true→x 64=.int .i64 k
 t6:l 6=true→x 65=.int .i64 (c.toNat:Int)
 t7:l 7=true→x 66=.int .u64 (n:Int)
 t11:l 11=true→x 70=s0
 by8:l 8=true→l 9=false→∃S:Nat→Prop,Dep S w (fun w=>SlB w (x 67) (beB 1 n))∧(∀b,S b→w0.heap.size≤b)∧(∀m,l 0=true→l 6=false→x 61=.map (some m)→¬S m)
 p9:l 9=true→l 10=false→∃v,x 68=.agg #[.int .i64 (c.toNat:Int),v]∧Dep (fun b=>w0.heap.size≤b) w (fun w=>SlB w v (beB 1 n))
 p10:l 10=true→l 12=false→RowG 143 2 Pcs w w0.heap.size (x 69) [(c,beB 1 n)]
 p12:l 12=true→RowG 143 2 Pcs w base (x 71) ((c,beB 1 n)::fs)
 q6:l 13=false→x 6=s0
 p13:l 13=true→x 6=x 71
theorem Ins14.map_lt{w0:World}{base B n:Nat}{k:Int}{c:UInt8}{s0:Value}{fs:List (UInt8×List UInt8)}{l:Nat→Bool}{x:Nat→Value}{w:World}(h:Ins14 w0 base B n k c s0 fs l x w){m:Nat}(a:l 0=true)(b:l 6=false)(e:x 61=.map (some m)):m<w.heap.size:=by
 obtain⟨m',q,e1,e2,e3,_⟩:=h.mp a b
 obtain⟨es,c,hm,_⟩:=e3
 rw [e]at e1
 injection e1 with e1
 injection e1 with e1
 subst e1
 exact lt_blk hm
theorem Ins14.world{w0:World}{base B n:Nat}{k:Int}{c:UInt8}{s0:Value}{fs:List (UInt8×List UInt8)}{l:Nat→Bool}{x:Nat→Value}{w:World}{w':World}(h:Ins14 w0 base B n k c s0 fs l x w)(kk:New w w'):Ins14 w0 base B n k c s0 fs l x w':=
 ⟨h.nw.trans kk,fun a b=>let ⟨m,q,e1,e2,e3,e4⟩:=h.mp a b;⟨m,q,e1,e2,e3.keep kk,e4⟩,h.d1,h.d2,h.d3,h.d6,h.d9,h.d10,h.d12,h.d13,h.t4,h.t5,h.t6,h.t7,h.t11,
  fun a b=>let ⟨S,e1,e2⟩:=h.by8 a b;⟨S,e1.new kk,e2⟩,fun a b=>let ⟨v,e1,e2⟩:=h.p9 a b;⟨v,e1,e2.new kk⟩,fun a b=>(h.p10 a b).keep kk (fun _ _=>trivial),fun a=>(h.p12 a).keep kk (fun _ _=>trivial),h.q6,h.p13⟩
theorem Ins14.s0{w0:World}{base B n:Nat}{k:Int}{c:UInt8}{s0:Value}{fs:List (UInt8×List UInt8)}{l:Nat→Bool}{x:Nat→Value}{w:World}(h:Ins14 w0 base B n k c s0 fs l x w)(hl:l 0=false):Ins14 w0 base B n k c s0 fs (up l 0 true) (up x 61 (.map (some w.heap.size))) (w.alloc (.map #[] 0)):=by
 have g:=h.world ((Keep.refl (fun _=>True) w).alloc (.map #[] 0))
 have n1:l 1=false:=by cases e:l 1 with | false=>rfl | true=>rw [h.d1 e]at hl;cases hl
 have n2:l 2=false:=by cases e:l 2 with | false=>rfl | true=>rw [h.d2 e]at hl;cases hl
 have n3:l 3=false:=by cases e:l 3 with | false=>rfl | true=>rw [(h.d3 e).1]at n1;cases n1
 constructor
 case nw=>simpa [up]using g.nw
 case mp=>
  intro _ _
  refine⟨w.heap.size,[],by simp [up],h.nw.size,IntMap.new w,fun p=>?_,?_⟩
  ·simp [up,n1,n2]
  ·simp [up,n3]
 case d1=>simpa [up]using g.d1
 case d2=>simpa [up]using g.d2
 case d3=>simpa [up]using g.d3
 case d6=>simpa [up]using g.d6
 case d9=>simpa [up]using g.d9
 case d10=>simpa [up]using g.d10
 case d12=>simpa [up]using g.d12
 case d13=>simpa [up]using g.d13
 case t4=>simpa [up]using g.t4
 case t5=>simpa [up]using g.t5
 case t6=>simpa [up]using g.t6
 case t7=>simpa [up]using g.t7
 case t11=>simpa [up]using g.t11
 case by8=>
  intro h8 h9
  obtain⟨S,e1,e2,e3⟩:=h.by8 (by simpa [up]using h8) (by simpa [up]using h9)
  refine⟨fun b=>S b∧b<w.heap.size,(e1.step (by simp) (fun i hi _=>((Keep.refl (fun _=>True) w).alloc (.map #[] 0)).block i hi trivial) (fun b hb hs=>⟨hs,hb⟩)).imp (fun w' h'=>by simpa [up]using h'),fun b hb=>e2 b hb.1,fun m _ _ hm hS=>?_⟩
  simp [up]at hm
  omega
 case p9=>simpa [up]using g.p9
 case p10=>simpa [up]using g.p10
 case p12=>simpa [up]using g.p12
 case q6=>simpa [up]using g.q6
 case p13=>simpa [up]using g.p13
theorem Ins14.s1{w0:World}{base B n:Nat}{k:Int}{c:UInt8}{s0:Value}{fs:List (UInt8×List UInt8)}{l:Nat→Bool}{x:Nat→Value}{w:World}(h:Ins14 w0 base B n k c s0 fs l x w)(h0:l 0=true)(hl:l 1=false):∃m w',x 61=.map (some m)∧(Instr.mapUpdate 294 (.map (some m)) (.int .i64 8) (.int .i64 84)).run Tryz.prog w=.ok () w'∧Ins14 w0 base B n k c s0 fs (up l 1 true) x w':=by
 have n3:l 3=false:=by cases e:l 3 with | false=>rfl | true=>exact absurd (h.d3 e) (by simp [hl])
 have n6:l 6=false:=by cases e:l 6 with | false=>rfl | true=>rw [h.d6 e]at n3;cases n3
 have n9:l 9=false:=by cases e:l 9 with | false=>rfl | true=>rw [(h.d9 e).1]at n6;cases n6
 have n10:l 10=false:=by cases e:l 10 with | false=>rfl | true=>rw [h.d10 e]at n9;cases n9
 have n12:l 12=false:=by cases e:l 12 with | false=>rfl | true=>rw [(h.d12 e).1]at n10;cases n10
 obtain⟨m,q,e1,e2,e3,e4,e5⟩:=h.mp h0 n6
 have hno:q.lookup 8=none:=lookup_none_of fun p hp e=>by
  rcases (e4 p).1 hp with⟨rfl,h'⟩ | ⟨rfl,h'⟩
  ·first | (rw [hl]at h';cases h') | simp at e
  ·first | (rw [hl]at h';cases h') | simp at e
 obtain⟨w',r1,r2,r3⟩:=e3.upd 8 84 hno
 refine⟨m,w',e1,r1,?_⟩
 constructor
 case nw=>exact h.nw.then r3 (fun i hi _=>by show i≠m;omega)
 case mp=>
  intro _ _
  refine⟨m,_,e1,e2,r2,fun p=>?_,fun h3=>by simp [up,n3]at h3⟩
  rw [List.mem_append,e4,List.mem_singleton]
  simp [up,hl,or_comm]
 case d1=>intro _;simpa [up]using h0
 case d2=>first | (simpa [up]using h.d2) | (intro a;have:=h.d2 (by simpa [up]using a);simp [up,this])
 case d3=>first | (simpa [up]using h.d3) | (intro a;have:=h.d3 (by simpa [up]using a);simp [up,this])
 case d6=>first | (simpa [up]using h.d6) | (intro a;have:=h.d6 (by simpa [up]using a);simp [up,this])
 case d9=>first | (simpa [up]using h.d9) | (intro a;have:=h.d9 (by simpa [up]using a);simp [up,this])
 case d10=>first | (simpa [up]using h.d10) | (intro a;have:=h.d10 (by simpa [up]using a);simp [up,this])
 case d12=>first | (simpa [up]using h.d12) | (intro a;have:=h.d12 (by simpa [up]using a);simp [up,this])
 case d13=>first | (simpa [up]using h.d13) | (intro a;have:=h.d13 (by simpa [up]using a);simp [up,this])
 case t4=>first | (simpa [up]using h.t4) | (intro a;have:=h.t4 (by simpa [up]using a);simp [up,this])
 case t5=>first | (simpa [up]using h.t5) | (intro a;have:=h.t5 (by simpa [up]using a);simp [up,this])
 case t6=>first | (simpa [up]using h.t6) | (intro a;have:=h.t6 (by simpa [up]using a);simp [up,this])
 case t7=>first | (simpa [up]using h.t7) | (intro a;have:=h.t7 (by simpa [up]using a);simp [up,this])
 case t11=>first | (simpa [up]using h.t11) | (intro a;have:=h.t11 (by simpa [up]using a);simp [up,this])
 case by8=>
  intro h8 h9
  obtain⟨S,b1,b2,b3⟩:=h.by8 (by simpa [up]using h8) (by simpa [up]using h9)
  exact⟨S,b1.keep r3 (fun i _ hi=>by rintro rfl;exact b3 i h0 n6 e1 hi),b2,fun m' hm' h6'=>b3 m' (by simpa [up]using hm') n6⟩
 case p9=>intro a;simp [up,n9]at a
 case p10=>intro a;simp [up,n10]at a
 case p12=>intro a;simp [up,n12]at a
 case q6=>first | (simpa [up]using h.q6) | (intro a;have:=h.q6 (by simpa [up]using a);simp [up,this])
 case p13=>first | (simpa [up]using h.p13) | (intro a;have:=h.p13 (by simpa [up]using a);simp [up,this])
theorem Ins14.s2{w0:World}{base B n:Nat}{k:Int}{c:UInt8}{s0:Value}{fs:List (UInt8×List UInt8)}{l:Nat→Bool}{x:Nat→Value}{w:World}(h:Ins14 w0 base B n k c s0 fs l x w)(h0:l 0=true)(hl:l 2=false):∃m w',x 61=.map (some m)∧(Instr.mapUpdate 294 (.map (some m)) (.int .i64 9) (.int .i64 85)).run Tryz.prog w=.ok () w'∧Ins14 w0 base B n k c s0 fs (up l 2 true) x w':=by
 have n3:l 3=false:=by cases e:l 3 with | false=>rfl | true=>exact absurd (h.d3 e) (by simp [hl])
 have n6:l 6=false:=by cases e:l 6 with | false=>rfl | true=>rw [h.d6 e]at n3;cases n3
 have n9:l 9=false:=by cases e:l 9 with | false=>rfl | true=>rw [(h.d9 e).1]at n6;cases n6
 have n10:l 10=false:=by cases e:l 10 with | false=>rfl | true=>rw [h.d10 e]at n9;cases n9
 have n12:l 12=false:=by cases e:l 12 with | false=>rfl | true=>rw [(h.d12 e).1]at n10;cases n10
 obtain⟨m,q,e1,e2,e3,e4,e5⟩:=h.mp h0 n6
 have hno:q.lookup 9=none:=lookup_none_of fun p hp e=>by
  rcases (e4 p).1 hp with⟨rfl,h'⟩ | ⟨rfl,h'⟩
  ·first | (rw [hl]at h';cases h') | simp at e
  ·first | (rw [hl]at h';cases h') | simp at e
 obtain⟨w',r1,r2,r3⟩:=e3.upd 9 85 hno
 refine⟨m,w',e1,r1,?_⟩
 constructor
 case nw=>exact h.nw.then r3 (fun i hi _=>by show i≠m;omega)
 case mp=>
  intro _ _
  refine⟨m,_,e1,e2,r2,fun p=>?_,fun h3=>by simp [up,n3]at h3⟩
  rw [List.mem_append,e4,List.mem_singleton]
  simp [up,hl,or_comm]
 case d1=>first | (simpa [up]using h.d1) | (intro a;have:=h.d1 (by simpa [up]using a);simp [up,this])
 case d2=>intro _;simpa [up]using h0
 case d3=>first | (simpa [up]using h.d3) | (intro a;have:=h.d3 (by simpa [up]using a);simp [up,this])
 case d6=>first | (simpa [up]using h.d6) | (intro a;have:=h.d6 (by simpa [up]using a);simp [up,this])
 case d9=>first | (simpa [up]using h.d9) | (intro a;have:=h.d9 (by simpa [up]using a);simp [up,this])
 case d10=>first | (simpa [up]using h.d10) | (intro a;have:=h.d10 (by simpa [up]using a);simp [up,this])
 case d12=>first | (simpa [up]using h.d12) | (intro a;have:=h.d12 (by simpa [up]using a);simp [up,this])
 case d13=>first | (simpa [up]using h.d13) | (intro a;have:=h.d13 (by simpa [up]using a);simp [up,this])
 case t4=>first | (simpa [up]using h.t4) | (intro a;have:=h.t4 (by simpa [up]using a);simp [up,this])
 case t5=>first | (simpa [up]using h.t5) | (intro a;have:=h.t5 (by simpa [up]using a);simp [up,this])
 case t6=>first | (simpa [up]using h.t6) | (intro a;have:=h.t6 (by simpa [up]using a);simp [up,this])
 case t7=>first | (simpa [up]using h.t7) | (intro a;have:=h.t7 (by simpa [up]using a);simp [up,this])
 case t11=>first | (simpa [up]using h.t11) | (intro a;have:=h.t11 (by simpa [up]using a);simp [up,this])
 case by8=>
  intro h8 h9
  obtain⟨S,b1,b2,b3⟩:=h.by8 (by simpa [up]using h8) (by simpa [up]using h9)
  exact⟨S,b1.keep r3 (fun i _ hi=>by rintro rfl;exact b3 i h0 n6 e1 hi),b2,fun m' hm' h6'=>b3 m' (by simpa [up]using hm') n6⟩
 case p9=>intro a;simp [up,n9]at a
 case p10=>intro a;simp [up,n10]at a
 case p12=>intro a;simp [up,n12]at a
 case q6=>first | (simpa [up]using h.q6) | (intro a;have:=h.q6 (by simpa [up]using a);simp [up,this])
 case p13=>first | (simpa [up]using h.p13) | (intro a;have:=h.p13 (by simpa [up]using a);simp [up,this])
theorem Ins14.s3{w0:World}{base B n:Nat}{k:Int}{c:UInt8}{s0:Value}{fs:List (UInt8×List UInt8)}{l:Nat→Bool}{x:Nat→Value}{w:World}(h:Ins14 w0 base B n k c s0 fs l x w)(h0:l 0=true)(h1:l 1=true)(h2:l 2=true)(hl:l 3=false):Ins14 w0 base B n k c s0 fs (up l 3 true) (up x 62 (x 61)) w:=by
 constructor
 case nw=>first | (simpa [up]using h.nw) | (intro a;have:=h.nw (by simpa [up]using a);simp [up,this])
 case mp=>
  intro _ h6
  obtain⟨m,q,e1,e2,e3,e4,e5⟩:=h.mp h0 (by simpa [up]using h6)
  exact⟨m,q,by simpa [up]using e1,e2,e3,by simpa [up]using e4,by simp [up,e1]⟩
 case d1=>first | (simpa [up]using h.d1) | (intro a;have:=h.d1 (by simpa [up]using a);simp [up,this])
 case d2=>first | (simpa [up]using h.d2) | (intro a;have:=h.d2 (by simpa [up]using a);simp [up,this])
 case d3=>intro _;simp [up,h1,h2]
 case d6=>first | (simpa [up]using h.d6) | (intro a;have:=h.d6 (by simpa [up]using a);simp [up,this])
 case d9=>first | (simpa [up]using h.d9) | (intro a;have:=h.d9 (by simpa [up]using a);simp [up,this])
 case d10=>first | (simpa [up]using h.d10) | (intro a;have:=h.d10 (by simpa [up]using a);simp [up,this])
 case d12=>first | (simpa [up]using h.d12) | (intro a;have:=h.d12 (by simpa [up]using a);simp [up,this])
 case d13=>first | (simpa [up]using h.d13) | (intro a;have:=h.d13 (by simpa [up]using a);simp [up,this])
 case t4=>first | (simpa [up]using h.t4) | (intro a;have:=h.t4 (by simpa [up]using a);simp [up,this])
 case t5=>first | (simpa [up]using h.t5) | (intro a;have:=h.t5 (by simpa [up]using a);simp [up,this])
 case t6=>first | (simpa [up]using h.t6) | (intro a;have:=h.t6 (by simpa [up]using a);simp [up,this])
 case t7=>first | (simpa [up]using h.t7) | (intro a;have:=h.t7 (by simpa [up]using a);simp [up,this])
 case t11=>first | (simpa [up]using h.t11) | (intro a;have:=h.t11 (by simpa [up]using a);simp [up,this])
 case by8=>first | (simpa [up]using h.by8) | (intro a;have:=h.by8 (by simpa [up]using a);simp [up,this])
 case p9=>first | (simpa [up]using h.p9) | (intro a;have:=h.p9 (by simpa [up]using a);simp [up,this])
 case p10=>first | (simpa [up]using h.p10) | (intro a;have:=h.p10 (by simpa [up]using a);simp [up,this])
 case p12=>first | (simpa [up]using h.p12) | (intro a;have:=h.p12 (by simpa [up]using a);simp [up,this])
 case q6=>first | (simpa [up]using h.q6) | (intro a;have:=h.q6 (by simpa [up]using a);simp [up,this])
 case p13=>first | (simpa [up]using h.p13) | (intro a;have:=h.p13 (by simpa [up]using a);simp [up,this])
theorem Ins14.s4{w0:World}{base B n:Nat}{k:Int}{c:UInt8}{s0:Value}{fs:List (UInt8×List UInt8)}{l:Nat→Bool}{x:Nat→Value}{w:World}(h:Ins14 w0 base B n k c s0 fs l x w):Ins14 w0 base B n k c s0 fs (up l 4 true) (up x 63 (.pointer (some ⟨B,0,none⟩))) w:=by
 constructor
 case nw=>first | (simpa [up]using h.nw) | (intro a;have:=h.nw (by simpa [up]using a);simp [up,this])
 case mp=>first | (simpa [up]using h.mp) | (intro a;have:=h.mp (by simpa [up]using a);simp [up,this])
 case d1=>first | (simpa [up]using h.d1) | (intro a;have:=h.d1 (by simpa [up]using a);simp [up,this])
 case d2=>first | (simpa [up]using h.d2) | (intro a;have:=h.d2 (by simpa [up]using a);simp [up,this])
 case d3=>first | (simpa [up]using h.d3) | (intro a;have:=h.d3 (by simpa [up]using a);simp [up,this])
 case d6=>first | (simpa [up]using h.d6) | (intro a;have:=h.d6 (by simpa [up]using a);simp [up,this])
 case d9=>first | (simpa [up]using h.d9) | (intro a;have:=h.d9 (by simpa [up]using a);simp [up,this])
 case d10=>first | (simpa [up]using h.d10) | (intro a;have:=h.d10 (by simpa [up]using a);simp [up,this])
 case d12=>first | (simpa [up]using h.d12) | (intro a;have:=h.d12 (by simpa [up]using a);simp [up,this])
 case d13=>first | (simpa [up]using h.d13) | (intro a;have:=h.d13 (by simpa [up]using a);simp [up,this])
 case t4=>intro _;simp [up]
 case t5=>first | (simpa [up]using h.t5) | (intro a;have:=h.t5 (by simpa [up]using a);simp [up,this])
 case t6=>first | (simpa [up]using h.t6) | (intro a;have:=h.t6 (by simpa [up]using a);simp [up,this])
 case t7=>first | (simpa [up]using h.t7) | (intro a;have:=h.t7 (by simpa [up]using a);simp [up,this])
 case t11=>first | (simpa [up]using h.t11) | (intro a;have:=h.t11 (by simpa [up]using a);simp [up,this])
 case by8=>first | (simpa [up]using h.by8) | (intro a;have:=h.by8 (by simpa [up]using a);simp [up,this])
 case p9=>first | (simpa [up]using h.p9) | (intro a;have:=h.p9 (by simpa [up]using a);simp [up,this])
 case p10=>first | (simpa [up]using h.p10) | (intro a;have:=h.p10 (by simpa [up]using a);simp [up,this])
 case p12=>first | (simpa [up]using h.p12) | (intro a;have:=h.p12 (by simpa [up]using a);simp [up,this])
 case q6=>first | (simpa [up]using h.q6) | (intro a;have:=h.q6 (by simpa [up]using a);simp [up,this])
 case p13=>first | (simpa [up]using h.p13) | (intro a;have:=h.p13 (by simpa [up]using a);simp [up,this])
theorem Ins14.s5{w0:World}{base B n:Nat}{k:Int}{c:UInt8}{s0:Value}{fs:List (UInt8×List UInt8)}{l:Nat→Bool}{x:Nat→Value}{w:World}(h:Ins14 w0 base B n k c s0 fs l x w):Ins14 w0 base B n k c s0 fs (up l 5 true) (up x 64 (.int .i64 k)) w:=by
 constructor
 case nw=>first | (simpa [up]using h.nw) | (intro a;have:=h.nw (by simpa [up]using a);simp [up,this])
 case mp=>first | (simpa [up]using h.mp) | (intro a;have:=h.mp (by simpa [up]using a);simp [up,this])
 case d1=>first | (simpa [up]using h.d1) | (intro a;have:=h.d1 (by simpa [up]using a);simp [up,this])
 case d2=>first | (simpa [up]using h.d2) | (intro a;have:=h.d2 (by simpa [up]using a);simp [up,this])
 case d3=>first | (simpa [up]using h.d3) | (intro a;have:=h.d3 (by simpa [up]using a);simp [up,this])
 case d6=>first | (simpa [up]using h.d6) | (intro a;have:=h.d6 (by simpa [up]using a);simp [up,this])
 case d9=>first | (simpa [up]using h.d9) | (intro a;have:=h.d9 (by simpa [up]using a);simp [up,this])
 case d10=>first | (simpa [up]using h.d10) | (intro a;have:=h.d10 (by simpa [up]using a);simp [up,this])
 case d12=>first | (simpa [up]using h.d12) | (intro a;have:=h.d12 (by simpa [up]using a);simp [up,this])
 case d13=>first | (simpa [up]using h.d13) | (intro a;have:=h.d13 (by simpa [up]using a);simp [up,this])
 case t4=>first | (simpa [up]using h.t4) | (intro a;have:=h.t4 (by simpa [up]using a);simp [up,this])
 case t5=>intro _;simp [up]
 case t6=>first | (simpa [up]using h.t6) | (intro a;have:=h.t6 (by simpa [up]using a);simp [up,this])
 case t7=>first | (simpa [up]using h.t7) | (intro a;have:=h.t7 (by simpa [up]using a);simp [up,this])
 case t11=>first | (simpa [up]using h.t11) | (intro a;have:=h.t11 (by simpa [up]using a);simp [up,this])
 case by8=>first | (simpa [up]using h.by8) | (intro a;have:=h.by8 (by simpa [up]using a);simp [up,this])
 case p9=>first | (simpa [up]using h.p9) | (intro a;have:=h.p9 (by simpa [up]using a);simp [up,this])
 case p10=>first | (simpa [up]using h.p10) | (intro a;have:=h.p10 (by simpa [up]using a);simp [up,this])
 case p12=>first | (simpa [up]using h.p12) | (intro a;have:=h.p12 (by simpa [up]using a);simp [up,this])
 case q6=>first | (simpa [up]using h.q6) | (intro a;have:=h.q6 (by simpa [up]using a);simp [up,this])
 case p13=>first | (simpa [up]using h.p13) | (intro a;have:=h.p13 (by simpa [up]using a);simp [up,this])
theorem Ins14.s7{w0:World}{base B n:Nat}{k:Int}{c:UInt8}{s0:Value}{fs:List (UInt8×List UInt8)}{l:Nat→Bool}{x:Nat→Value}{w:World}(h:Ins14 w0 base B n k c s0 fs l x w):Ins14 w0 base B n k c s0 fs (up l 7 true) (up x 66 (.int .u64 (n:Int))) w:=by
 constructor
 case nw=>first | (simpa [up]using h.nw) | (intro a;have:=h.nw (by simpa [up]using a);simp [up,this])
 case mp=>first | (simpa [up]using h.mp) | (intro a;have:=h.mp (by simpa [up]using a);simp [up,this])
 case d1=>first | (simpa [up]using h.d1) | (intro a;have:=h.d1 (by simpa [up]using a);simp [up,this])
 case d2=>first | (simpa [up]using h.d2) | (intro a;have:=h.d2 (by simpa [up]using a);simp [up,this])
 case d3=>first | (simpa [up]using h.d3) | (intro a;have:=h.d3 (by simpa [up]using a);simp [up,this])
 case d6=>first | (simpa [up]using h.d6) | (intro a;have:=h.d6 (by simpa [up]using a);simp [up,this])
 case d9=>first | (simpa [up]using h.d9) | (intro a;have:=h.d9 (by simpa [up]using a);simp [up,this])
 case d10=>first | (simpa [up]using h.d10) | (intro a;have:=h.d10 (by simpa [up]using a);simp [up,this])
 case d12=>first | (simpa [up]using h.d12) | (intro a;have:=h.d12 (by simpa [up]using a);simp [up,this])
 case d13=>first | (simpa [up]using h.d13) | (intro a;have:=h.d13 (by simpa [up]using a);simp [up,this])
 case t4=>first | (simpa [up]using h.t4) | (intro a;have:=h.t4 (by simpa [up]using a);simp [up,this])
 case t5=>first | (simpa [up]using h.t5) | (intro a;have:=h.t5 (by simpa [up]using a);simp [up,this])
 case t6=>first | (simpa [up]using h.t6) | (intro a;have:=h.t6 (by simpa [up]using a);simp [up,this])
 case t7=>intro _;simp [up]
 case t11=>first | (simpa [up]using h.t11) | (intro a;have:=h.t11 (by simpa [up]using a);simp [up,this])
 case by8=>first | (simpa [up]using h.by8) | (intro a;have:=h.by8 (by simpa [up]using a);simp [up,this])
 case p9=>first | (simpa [up]using h.p9) | (intro a;have:=h.p9 (by simpa [up]using a);simp [up,this])
 case p10=>first | (simpa [up]using h.p10) | (intro a;have:=h.p10 (by simpa [up]using a);simp [up,this])
 case p12=>first | (simpa [up]using h.p12) | (intro a;have:=h.p12 (by simpa [up]using a);simp [up,this])
 case q6=>first | (simpa [up]using h.q6) | (intro a;have:=h.q6 (by simpa [up]using a);simp [up,this])
 case p13=>first | (simpa [up]using h.p13) | (intro a;have:=h.p13 (by simpa [up]using a);simp [up,this])
theorem Ins14.s11{w0:World}{base B n:Nat}{k:Int}{c:UInt8}{s0:Value}{fs:List (UInt8×List UInt8)}{l:Nat→Bool}{x:Nat→Value}{w:World}(h:Ins14 w0 base B n k c s0 fs l x w):Ins14 w0 base B n k c s0 fs (up l 11 true) (up x 70 (s0)) w:=by
 constructor
 case nw=>first | (simpa [up]using h.nw) | (intro a;have:=h.nw (by simpa [up]using a);simp [up,this])
 case mp=>first | (simpa [up]using h.mp) | (intro a;have:=h.mp (by simpa [up]using a);simp [up,this])
 case d1=>first | (simpa [up]using h.d1) | (intro a;have:=h.d1 (by simpa [up]using a);simp [up,this])
 case d2=>first | (simpa [up]using h.d2) | (intro a;have:=h.d2 (by simpa [up]using a);simp [up,this])
 case d3=>first | (simpa [up]using h.d3) | (intro a;have:=h.d3 (by simpa [up]using a);simp [up,this])
 case d6=>first | (simpa [up]using h.d6) | (intro a;have:=h.d6 (by simpa [up]using a);simp [up,this])
 case d9=>first | (simpa [up]using h.d9) | (intro a;have:=h.d9 (by simpa [up]using a);simp [up,this])
 case d10=>first | (simpa [up]using h.d10) | (intro a;have:=h.d10 (by simpa [up]using a);simp [up,this])
 case d12=>first | (simpa [up]using h.d12) | (intro a;have:=h.d12 (by simpa [up]using a);simp [up,this])
 case d13=>first | (simpa [up]using h.d13) | (intro a;have:=h.d13 (by simpa [up]using a);simp [up,this])
 case t4=>first | (simpa [up]using h.t4) | (intro a;have:=h.t4 (by simpa [up]using a);simp [up,this])
 case t5=>first | (simpa [up]using h.t5) | (intro a;have:=h.t5 (by simpa [up]using a);simp [up,this])
 case t6=>first | (simpa [up]using h.t6) | (intro a;have:=h.t6 (by simpa [up]using a);simp [up,this])
 case t7=>first | (simpa [up]using h.t7) | (intro a;have:=h.t7 (by simpa [up]using a);simp [up,this])
 case t11=>intro _;simp [up]
 case by8=>first | (simpa [up]using h.by8) | (intro a;have:=h.by8 (by simpa [up]using a);simp [up,this])
 case p9=>first | (simpa [up]using h.p9) | (intro a;have:=h.p9 (by simpa [up]using a);simp [up,this])
 case p10=>first | (simpa [up]using h.p10) | (intro a;have:=h.p10 (by simpa [up]using a);simp [up,this])
 case p12=>first | (simpa [up]using h.p12) | (intro a;have:=h.p12 (by simpa [up]using a);simp [up,this])
 case q6=>first | (simpa [up]using h.q6) | (intro a;have:=h.q6 (by simpa [up]using a);simp [up,this])
 case p13=>first | (simpa [up]using h.p13) | (intro a;have:=h.p13 (by simpa [up]using a);simp [up,this])
theorem Ins14.s6{w0:World}{base B n:Nat}{k:Int}{c:UInt8}{s0:Value}{fs:List (UInt8×List UInt8)}{l:Nat→Bool}{x:Nat→Value}{w:World}(h:Ins14 w0 base B n k c s0 fs l x w)(hk:([(8,84),(9,85)]:List (Int×Int)).lookup k=some (c.toNat:Int))(h3:l 3=true)(hl:l 6=false):(∃m,x 62=.map (some m)∧(Instr.lookup 294 (.map (some m)) (.int .i64 k) false).run Tryz.prog w=.ok (.int .i64 (c.toNat:Int)) w)∧Ins14 w0 base B n k c s0 fs (up l 6 true) (up x 65 (.int .i64 (c.toNat:Int))) w:=by
 obtain⟨h1,h2⟩:=h.d3 h3
 obtain⟨m,q,e1,e2,e3,e4,e5⟩:=h.mp (h.d1 h1) hl
 refine⟨⟨m,e5 h3,?_⟩,?_⟩
 ·rw [e3.look k,lookup_same (l':=[(8,84),(9,85)]) (fun p=>by rw [e4];simp [h1,h2]) (by decide) k,hk]
  rfl
 constructor
 case nw=>first | (simpa [up]using h.nw) | (intro a;have:=h.nw (by simpa [up]using a);simp [up,this])
 case mp=>intro _ a;simp [up]at a
 case d1=>first | (simpa [up]using h.d1) | (intro a;have:=h.d1 (by simpa [up]using a);simp [up,this])
 case d2=>first | (simpa [up]using h.d2) | (intro a;have:=h.d2 (by simpa [up]using a);simp [up,this])
 case d3=>first | (simpa [up]using h.d3) | (intro a;have:=h.d3 (by simpa [up]using a);simp [up,this])
 case d6=>intro _;simpa [up]using h3
 case d9=>first | (simpa [up]using h.d9) | (intro a;have:=h.d9 (by simpa [up]using a);simp [up,this])
 case d10=>first | (simpa [up]using h.d10) | (intro a;have:=h.d10 (by simpa [up]using a);simp [up,this])
 case d12=>first | (simpa [up]using h.d12) | (intro a;have:=h.d12 (by simpa [up]using a);simp [up,this])
 case d13=>first | (simpa [up]using h.d13) | (intro a;have:=h.d13 (by simpa [up]using a);simp [up,this])
 case t4=>first | (simpa [up]using h.t4) | (intro a;have:=h.t4 (by simpa [up]using a);simp [up,this])
 case t5=>first | (simpa [up]using h.t5) | (intro a;have:=h.t5 (by simpa [up]using a);simp [up,this])
 case t6=>intro _;simp [up]
 case t7=>first | (simpa [up]using h.t7) | (intro a;have:=h.t7 (by simpa [up]using a);simp [up,this])
 case t11=>first | (simpa [up]using h.t11) | (intro a;have:=h.t11 (by simpa [up]using a);simp [up,this])
 case by8=>intro a b;obtain⟨S,e1,e2,_⟩:=h.by8 (by simpa [up]using a) (by simpa [up]using b);exact⟨S,e1.imp (fun w h=>by simpa [up]using h),e2,fun m _ a=>by simp [up]at a⟩
 case p9=>first | (simpa [up]using h.p9) | (intro a;have:=h.p9 (by simpa [up]using a);simp [up,this])
 case p10=>first | (simpa [up]using h.p10) | (intro a;have:=h.p10 (by simpa [up]using a);simp [up,this])
 case p12=>first | (simpa [up]using h.p12) | (intro a;have:=h.p12 (by simpa [up]using a);simp [up,this])
 case q6=>first | (simpa [up]using h.q6) | (intro a;have:=h.q6 (by simpa [up]using a);simp [up,this])
 case p13=>first | (simpa [up]using h.p13) | (intro a;have:=h.p13 (by simpa [up]using a);simp [up,this])
theorem Ins14.s8{w0:World}{base B n:Nat}{k:Int}{c:UInt8}{s0:Value}{fs:List (UInt8×List UInt8)}{l:Nat→Bool}{x:Nat→Value}{w:World}{v:Value}(h:Ins14 w0 base B n k c s0 fs l x w){b0:Nat}(hb:w0.heap.size≤b0)(hm:∀m,l 0=true→l 6=false→x 61=.map (some m)→m<b0)(hv:Dep (fun b=>b0≤b) w (fun w=>SlB w v (beB 1 n)))(hl:l 8=false):Ins14 w0 base B n k c s0 fs (up l 8 true) (up x 67 v) w:=by
 have n9:l 9=false:=by cases e:l 9 with | false=>rfl | true=>rw [(h.d9 e).2]at hl;cases hl
 constructor
 case nw=>first | (simpa [up]using h.nw) | (intro a;have:=h.nw (by simpa [up]using a);simp [up,this])
 case mp=>first | (simpa [up]using h.mp) | (intro a;have:=h.mp (by simpa [up]using a);simp [up,this])
 case d1=>first | (simpa [up]using h.d1) | (intro a;have:=h.d1 (by simpa [up]using a);simp [up,this])
 case d2=>first | (simpa [up]using h.d2) | (intro a;have:=h.d2 (by simpa [up]using a);simp [up,this])
 case d3=>first | (simpa [up]using h.d3) | (intro a;have:=h.d3 (by simpa [up]using a);simp [up,this])
 case d6=>first | (simpa [up]using h.d6) | (intro a;have:=h.d6 (by simpa [up]using a);simp [up,this])
 case d9=>intro a;simp [up,n9]at a
 case d10=>first | (simpa [up]using h.d10) | (intro a;have:=h.d10 (by simpa [up]using a);simp [up,this])
 case d12=>first | (simpa [up]using h.d12) | (intro a;have:=h.d12 (by simpa [up]using a);simp [up,this])
 case d13=>first | (simpa [up]using h.d13) | (intro a;have:=h.d13 (by simpa [up]using a);simp [up,this])
 case t4=>first | (simpa [up]using h.t4) | (intro a;have:=h.t4 (by simpa [up]using a);simp [up,this])
 case t5=>first | (simpa [up]using h.t5) | (intro a;have:=h.t5 (by simpa [up]using a);simp [up,this])
 case t6=>first | (simpa [up]using h.t6) | (intro a;have:=h.t6 (by simpa [up]using a);simp [up,this])
 case t7=>first | (simpa [up]using h.t7) | (intro a;have:=h.t7 (by simpa [up]using a);simp [up,this])
 case t11=>first | (simpa [up]using h.t11) | (intro a;have:=h.t11 (by simpa [up]using a);simp [up,this])
 case by8=>
  intro _ _
  exact⟨fun b=>b0≤b,hv.imp (fun w' h'=>by simpa [up]using h'),fun b hb'=>Nat.le_trans hb hb',fun m a a' b hS=>by have:=hm m (by simpa [up]using a) (by simpa [up]using a') (by simpa [up]using b);omega⟩
 case p9=>first | (simpa [up]using h.p9) | (intro a;have:=h.p9 (by simpa [up]using a);simp [up,this])
 case p10=>first | (simpa [up]using h.p10) | (intro a;have:=h.p10 (by simpa [up]using a);simp [up,this])
 case p12=>first | (simpa [up]using h.p12) | (intro a;have:=h.p12 (by simpa [up]using a);simp [up,this])
 case q6=>first | (simpa [up]using h.q6) | (intro a;have:=h.q6 (by simpa [up]using a);simp [up,this])
 case p13=>first | (simpa [up]using h.p13) | (intro a;have:=h.p13 (by simpa [up]using a);simp [up,this])
theorem Ins14.s9{w0:World}{base B n:Nat}{k:Int}{c:UInt8}{s0:Value}{fs:List (UInt8×List UInt8)}{l:Nat→Bool}{x:Nat→Value}{w:World}(h:Ins14 w0 base B n k c s0 fs l x w)(h6:l 6=true)(h8:l 8=true)(hl:l 9=false):Ins14 w0 base B n k c s0 fs (up l 9 true) (up x 68 (.agg #[x 65,x 67])) w:=by
 have n10:l 10=false:=by cases e:l 10 with | false=>rfl | true=>rw [h.d10 e]at hl;cases hl
 constructor
 case nw=>first | (simpa [up]using h.nw) | (intro a;have:=h.nw (by simpa [up]using a);simp [up,this])
 case mp=>first | (simpa [up]using h.mp) | (intro a;have:=h.mp (by simpa [up]using a);simp [up,this])
 case d1=>first | (simpa [up]using h.d1) | (intro a;have:=h.d1 (by simpa [up]using a);simp [up,this])
 case d2=>first | (simpa [up]using h.d2) | (intro a;have:=h.d2 (by simpa [up]using a);simp [up,this])
 case d3=>first | (simpa [up]using h.d3) | (intro a;have:=h.d3 (by simpa [up]using a);simp [up,this])
 case d6=>first | (simpa [up]using h.d6) | (intro a;have:=h.d6 (by simpa [up]using a);simp [up,this])
 case d9=>intro _;simp [up,h6,h8]
 case d10=>first | (simpa [up]using h.d10) | (intro a;have:=h.d10 (by simpa [up]using a);simp [up,this])
 case d12=>first | (simpa [up]using h.d12) | (intro a;have:=h.d12 (by simpa [up]using a);simp [up,this])
 case d13=>first | (simpa [up]using h.d13) | (intro a;have:=h.d13 (by simpa [up]using a);simp [up,this])
 case t4=>first | (simpa [up]using h.t4) | (intro a;have:=h.t4 (by simpa [up]using a);simp [up,this])
 case t5=>first | (simpa [up]using h.t5) | (intro a;have:=h.t5 (by simpa [up]using a);simp [up,this])
 case t6=>first | (simpa [up]using h.t6) | (intro a;have:=h.t6 (by simpa [up]using a);simp [up,this])
 case t7=>first | (simpa [up]using h.t7) | (intro a;have:=h.t7 (by simpa [up]using a);simp [up,this])
 case t11=>first | (simpa [up]using h.t11) | (intro a;have:=h.t11 (by simpa [up]using a);simp [up,this])
 case by8=>intro _ a;simp [up]at a
 case p9=>
  intro _ _
  obtain⟨S,e1,e2,_⟩:=h.by8 h8 hl
  exact⟨x 67,by simp [up,h.t6 h6],e1.mono fun b _ hb=>e2 b hb⟩
 case p10=>first | (simpa [up]using h.p10) | (intro a;have:=h.p10 (by simpa [up]using a);simp [up,this])
 case p12=>first | (simpa [up]using h.p12) | (intro a;have:=h.p12 (by simpa [up]using a);simp [up,this])
 case q6=>first | (simpa [up]using h.q6) | (intro a;have:=h.q6 (by simpa [up]using a);simp [up,this])
 case p13=>first | (simpa [up]using h.p13) | (intro a;have:=h.p13 (by simpa [up]using a);simp [up,this])
theorem Ins14.s10{w0:World}{base B n:Nat}{k:Int}{c:UInt8}{s0:Value}{fs:List (UInt8×List UInt8)}{l:Nat→Bool}{x:Nat→Value}{w:World}(h:Ins14 w0 base B n k c s0 fs l x w)(h9:l 9=true)(hl:l 10=false):∃v,x 68=.agg #[.int .i64 (c.toNat:Int),v]∧(∃A m cc,v=.slice A m cc)∧Ins14 w0 base B n k c s0 fs (up l 10 true) (up x 69 (.slice (some ⟨w.heap.size,0,none⟩) 1 1)) (w.alloc (.cells #[.int .i64 (c.toNat:Int),v] 143)):=by
 have n12:l 12=false:=by cases e:l 12 with | false=>rfl | true=>rw [(h.d12 e).1]at hl;cases hl
 obtain⟨v,e1,e2⟩:=h.p9 h9 hl
 have kN:=(Keep.refl (fun _=>True) w).alloc (.cells #[.int .i64 (c.toNat:Int),v] 143)
 have g:=h.world kN
 refine⟨v,e1,(let ⟨A,cc,e,_⟩:=e2.here;⟨A,_,cc,e⟩),?_⟩
 constructor
 case nw=>first | (simpa [up]using g.nw) | (intro a;have:=h.nw (by simpa [up]using a);simp [up,this])
 case mp=>first | (simpa [up]using g.mp) | (intro a;have:=h.mp (by simpa [up]using a);simp [up,this])
 case d1=>first | (simpa [up]using g.d1) | (intro a;have:=h.d1 (by simpa [up]using a);simp [up,this])
 case d2=>first | (simpa [up]using g.d2) | (intro a;have:=h.d2 (by simpa [up]using a);simp [up,this])
 case d3=>first | (simpa [up]using g.d3) | (intro a;have:=h.d3 (by simpa [up]using a);simp [up,this])
 case d6=>first | (simpa [up]using g.d6) | (intro a;have:=h.d6 (by simpa [up]using a);simp [up,this])
 case d9=>first | (simpa [up]using g.d9) | (intro a;have:=h.d9 (by simpa [up]using a);simp [up,this])
 case d10=>intro _;simp [up,h9]
 case d12=>first | (simpa [up]using g.d12) | (intro a;have:=h.d12 (by simpa [up]using a);simp [up,this])
 case d13=>first | (simpa [up]using g.d13) | (intro a;have:=h.d13 (by simpa [up]using a);simp [up,this])
 case t4=>first | (simpa [up]using g.t4) | (intro a;have:=h.t4 (by simpa [up]using a);simp [up,this])
 case t5=>first | (simpa [up]using g.t5) | (intro a;have:=h.t5 (by simpa [up]using a);simp [up,this])
 case t6=>first | (simpa [up]using g.t6) | (intro a;have:=h.t6 (by simpa [up]using a);simp [up,this])
 case t7=>first | (simpa [up]using g.t7) | (intro a;have:=h.t7 (by simpa [up]using a);simp [up,this])
 case t11=>first | (simpa [up]using g.t11) | (intro a;have:=h.t11 (by simpa [up]using a);simp [up,this])
 case by8=>first | (simpa [up]using g.by8) | (intro a;have:=h.by8 (by simpa [up]using a);simp [up,this])
 case p9=>intro _ a;simp [up]at a
 case p10=>
  intro _ _
  refine⟨[.int .i64 (c.toNat:Int),v],⟨rfl,.inr ⟨w.heap.size,1,#[.int .i64 (c.toNat:Int),v],by simp [up],h.nw.size,blk_new w _,Nat.le_refl _,by unfold maxLen;omega,rfl,rfl⟩⟩,?_⟩
  exact(e2.step kN.size (fun i hi _=>kN.block i hi trivial) (fun b hb hok=>⟨hok,fun e=>by simp [up,Value.ownBlock]at e;omega⟩)).imp fun w h=>Pcs.cons h.toC .nil
 case p12=>first | (simpa [up]using g.p12) | (intro a;have:=h.p12 (by simpa [up]using a);simp [up,this])
 case q6=>first | (simpa [up]using g.q6) | (intro a;have:=h.q6 (by simpa [up]using a);simp [up,this])
 case p13=>first | (simpa [up]using g.p13) | (intro a;have:=h.p13 (by simpa [up]using a);simp [up,this])
theorem Ins14.s12{w0:World}{base B n:Nat}{k:Int}{c:UInt8}{s0:Value}{fs:List (UInt8×List UInt8)}{l:Nat→Bool}{x:Nat→Value}{w:World}(h:Ins14 w0 base B n k c s0 fs l x w)(hb:base≤w0.heap.size)(hrow:RowG 143 2 Pcs w0 base s0 fs)(hfs:0<fs.length)(hfs2:fs.length≤1000)(h10:l 10=true)(h11:l 11=true)(hl:l 12=false):∃r w',(Builtin.append_ #[140,140] 140 #[x 69,s0]).run Tryz.prog w=.ok r w'∧Ins14 w0 base B n k c s0 fs (up l 12 true) (up x 71 r) w':=by
 have h9:=h.d10 h10
 obtain⟨h6,h8⟩:=h.d9 h9
 have n13:l 13=false:=by cases e:l 13 with | false=>rfl | true=>rw [h.d13 e]at hl;cases hl
 have row:=h.p10 h10 hl
 have kk:=h.nw
 obtain⟨cells,ho,hd⟩:=hrow
 have hsl:=(slG_own ho).keep kk
 obtain⟨A,cc,hs0⟩:∃A cc,s0=.slice A fs.length cc:=(let ⟨A,cc,e,_⟩:=hsl.shape;⟨A,cc,e⟩)
 have hs1:=hs0
 rw [hs0]at hsl
 obtain⟨d,i,hA,_,_,_,hcell⟩:=hsl.at (by omega)
 have hlen:=pieceCells.len hd.here
 have hown:=row.far
 obtain⟨g,cap,w',hr,hrow',k',hg⟩:=(row.mono hb).step pieceCells (vs:=fs) Tryz.underlying140 info143 rfl (by omega) (by omega) d i cc cells (fun j u hj=>hcell j u (by rw [←hlen];exact(List.getElem?_eq_some_iff.1 hj).1) hj)
  (hd.step kk.size (fun i hi _=>kk.block i hi trivial) (fun b hb' hok=>⟨hok.1,hown b hb'⟩)) hfs (by simp;omega) (Nat.le_trans hb kk.size)
 refine⟨_,w',by rw [hs0,hA];exact hr,?_⟩
 constructor
 case nw=>exact kk.then k' (fun i hi _=>hown i hi)
 case mp=>intro _ a;simp [up,h6]at a
 case d1=>first | (simpa [up]using h.d1) | (intro a;have:=h.d1 (by simpa [up]using a);simp [up,this])
 case d2=>first | (simpa [up]using h.d2) | (intro a;have:=h.d2 (by simpa [up]using a);simp [up,this])
 case d3=>first | (simpa [up]using h.d3) | (intro a;have:=h.d3 (by simpa [up]using a);simp [up,this])
 case d6=>first | (simpa [up]using h.d6) | (intro a;have:=h.d6 (by simpa [up]using a);simp [up,this])
 case d9=>first | (simpa [up]using h.d9) | (intro a;have:=h.d9 (by simpa [up]using a);simp [up,this])
 case d10=>first | (simpa [up]using h.d10) | (intro a;have:=h.d10 (by simpa [up]using a);simp [up,this])
 case d12=>intro _;simp [up,h10,h11]
 case d13=>intro a;simp [up,n13]at a
 case t4=>first | (simpa [up]using h.t4) | (intro a;have:=h.t4 (by simpa [up]using a);simp [up,this])
 case t5=>first | (simpa [up]using h.t5) | (intro a;have:=h.t5 (by simpa [up]using a);simp [up,this])
 case t6=>first | (simpa [up]using h.t6) | (intro a;have:=h.t6 (by simpa [up]using a);simp [up,this])
 case t7=>first | (simpa [up]using h.t7) | (intro a;have:=h.t7 (by simpa [up]using a);simp [up,this])
 case t11=>first | (simpa [up]using h.t11) | (intro a;have:=h.t11 (by simpa [up]using a);simp [up,this])
 case by8=>intro _ a;simp [up,h9]at a
 case p9=>intro _ a;simp [up,h10]at a
 case p10=>intro _ a;simp [up]at a
 case p12=>
  intro _
  have e:up x 71 (.slice (some ⟨g,0,none⟩) ([(c,beB 1 n)].length+fs.length) cap) 71=.slice (some ⟨g,0,none⟩) ([(c,beB 1 n)].length+fs.length) cap:=by simp [up]
  rw [e]
  exact hrow'
 case q6=>first | (simpa [up]using h.q6) | (intro a;have:=h.q6 (by simpa [up]using a);simp [up,this])
 case p13=>intro a;simp [up,n13]at a
theorem Ins14.s13{w0:World}{base B n:Nat}{k:Int}{c:UInt8}{s0:Value}{fs:List (UInt8×List UInt8)}{l:Nat→Bool}{x:Nat→Value}{w:World}(h:Ins14 w0 base B n k c s0 fs l x w)(h12:l 12=true):Ins14 w0 base B n k c s0 fs (up l 13 true) (up x 6 (x 71)) w:=by
 constructor
 case nw=>first | (simpa [up]using h.nw) | (intro a;have:=h.nw (by simpa [up]using a);simp [up,this])
 case mp=>first | (simpa [up]using h.mp) | (intro a;have:=h.mp (by simpa [up]using a);simp [up,this])
 case d1=>first | (simpa [up]using h.d1) | (intro a;have:=h.d1 (by simpa [up]using a);simp [up,this])
 case d2=>first | (simpa [up]using h.d2) | (intro a;have:=h.d2 (by simpa [up]using a);simp [up,this])
 case d3=>first | (simpa [up]using h.d3) | (intro a;have:=h.d3 (by simpa [up]using a);simp [up,this])
 case d6=>first | (simpa [up]using h.d6) | (intro a;have:=h.d6 (by simpa [up]using a);simp [up,this])
 case d9=>first | (simpa [up]using h.d9) | (intro a;have:=h.d9 (by simpa [up]using a);simp [up,this])
 case d10=>first | (simpa [up]using h.d10) | (intro a;have:=h.d10 (by simpa [up]using a);simp [up,this])
 case d12=>first | (simpa [up]using h.d12) | (intro a;have:=h.d12 (by simpa [up]using a);simp [up,this])
 case d13=>intro _;simp [up,h12]
 case t4=>first | (simpa [up]using h.t4) | (intro a;have:=h.t4 (by simpa [up]using a);simp [up,this])
 case t5=>first | (simpa [up]using h.t5) | (intro a;have:=h.t5 (by simpa [up]using a);simp [up,this])
 case t6=>first | (simpa [up]using h.t6) | (intro a;have:=h.t6 (by simpa [up]using a);simp [up,this])
 case t7=>first | (simpa [up]using h.t7) | (intro a;have:=h.t7 (by simpa [up]using a);simp [up,this])
 case t11=>first | (simpa [up]using h.t11) | (intro a;have:=h.t11 (by simpa [up]using a);simp [up,this])
 case by8=>first | (simpa [up]using h.by8) | (intro a;have:=h.by8 (by simpa [up]using a);simp [up,this])
 case p9=>first | (simpa [up]using h.p9) | (intro a;have:=h.p9 (by simpa [up]using a);simp [up,this])
 case p10=>first | (simpa [up]using h.p10) | (intro a;have:=h.p10 (by simpa [up]using a);simp [up,this])
 case p12=>first | (simpa [up]using h.p12) | (intro a;have:=h.p12 (by simpa [up]using a);simp [up,this])
 case q6=>intro a;simp [up]at a
 case p13=>intro _;simp [up]
theorem ins_region_14{Q:Exit→Act→World→Prop}{F:Act}{w:World}{base B n:Nat}{k:Int}{c:UInt8}{s0:Value}{fs:List (UInt8×List UInt8)}(hF:F.tmps.size=73)(t1:F.eval (.tmp 1)=.pointer (some ⟨B,0,none⟩))(t3:F.eval (.tmp 3)=.int .u64 (n:Int))(t6:F.eval (.tmp 6)=s0)
 (hB:w.cell? ⟨B,0,none⟩=some (.int .i64 k)) (hn:n<18446744073709551616) (hk:([(8,84),(9,85)]:List (Int×Int)).lookup k=some (c.toNat:Int)) (hb:base≤w.heap.size) (hrow:RowG 143 2 Pcs w base s0 fs) (hfs:0<fs.length) (hfs2:fs.length≤1000)
 (hQ:∀a' w',Agrees F [6,61,62,63,64,65,66,67,68,69,70,71] a'→New w w'→RowG 143 2 Pcs w' base (a'.eval (.tmp 6)) ((c,beB 1 n)::fs)→Q .normal a' w'):
 (Code.region 14 #[{ dst:=some 61,op:=Op.makeMap 294 none,type:=294,pos:= "amqp.go:50",after:=#[],guard:=none },{ dst:=none,op:=Op.insert 294 (Operand.tmp 61) (Operand.const (Value.int IntKind.i64 8)) (Operand.const (Value.int IntKind.i64 84)),type:=0,pos:= "amqp.go:50",after:=#[{ on:=0,ground:=Ground.data }],guard:=none },{ dst:=none,op:=Op.insert 294 (Operand.tmp 61) (Operand.const (Value.int IntKind.i64 9)) (Operand.const (Value.int IntKind.i64 85)),type:=0,pos:= "amqp.go:50",after:=#[{ on:=0,ground:=Ground.data }],guard:=none },{ dst:=some 62,op:=Op.move (Operand.tmp 61),type:=294,pos:= "amqp.go:50",after:=#[{ on:=0,ground:=Ground.data },{ on:=1,ground:=Ground.data },{ on:=2,ground:=Ground.data }],guard:=none },{ dst:=some 63,op:=Op.fieldAddr 78 (Operand.tmp 1) 0,type:=0,pos:= "amqp.go:50",after:=#[],guard:=none },{ dst:=some 64,op:=Op.load 3 (Operand.tmp 63),type:=3,pos:= "amqp.go:50",after:=#[{ on:=4,ground:=Ground.data }],guard:=none },{ dst:=some 65,op:=Op.lookup 294 (Operand.tmp 62) (Operand.tmp 64) false,type:=3,pos:= "amqp.go:50",after:=#[{ on:=3,ground:=Ground.data },{ on:=5,ground:=Ground.data }],guard:=none },{ dst:=some 66,op:=Op.move (Operand.tmp 3),type:=26,pos:= "amqp.go:50",after:=#[],guard:=none },{ dst:=some 67,op:=Op.call { callee:=Callee.value (Operand.func 133),args:=#[Operand.tmp 66,Operand.const (Value.int IntKind.i64 1)],argTypes:=#[26,3] },type:=27,pos:= "amqp.go:50",after:=#[{ on:=7,ground:=Ground.data }],guard:=none },{ dst:=some 68,op:=Op.build 143 #[(0,Operand.tmp 65),(1,Operand.tmp 67)],type:=143,pos:= "amqp.go:50",after:=#[{ on:=6,ground:=Ground.data },{ on:=8,ground:=Ground.data }],guard:=none },{ dst:=some 69,op:=Op.buildSlice 140 1 #[(0,Operand.tmp 68)],type:=140,pos:= "amqp.go:50",after:=#[{ on:=9,ground:=Ground.data }],guard:=none },{ dst:=some 70,op:=Op.move (Operand.tmp 6),type:=140,pos:= "amqp.go:50",after:=#[],guard:=none },{ dst:=some 71,op:=Op.call { callee:=Callee.builtin Builtin.append,args:=#[Operand.tmp 69,Operand.tmp 70],argTypes:=#[140,140] },type:=140,pos:= "amqp.go:50",after:=#[{ on:=10,ground:=Ground.data },{ on:=11,ground:=Ground.data },{ on:=8,ground:=Ground.chain }],guard:=none },{ dst:=some 6,op:=Op.assign (Operand.tmp 71),type:=140,pos:= "amqp.go:50",after:=#[{ on:=12,ground:=Ground.data },{ on:=12,ground:=Ground.chain },{ on:=0,ground:=Ground.phase },{ on:=1,ground:=Ground.phase },{ on:=2,ground:=Ground.phase },{ on:=3,ground:=Ground.phase },{ on:=4,ground:=Ground.phase },{ on:=5,ground:=Ground.phase },{ on:=6,ground:=Ground.phase },{ on:=7,ground:=Ground.phase },{ on:=8,ground:=Ground.phase },{ on:=9,ground:=Ground.phase },{ on:=10,ground:=Ground.phase },{ on:=11,ground:=Ground.phase },{ on:=12,ground:=Ground.phase }],guard:=none }] true).wp Tryz.prog Q F w:=by
 refine region_inv (by kernel_rfl) (fun L a w'=>Agrees F [6,61,62,63,64,65,66,67,68,69,70,71] a∧Ins14 w base B n k c s0 fs (fun j=>L.getD j false) (fun t=>a.eval (.tmp t)) w') (by kernel_rfl) ?start ?step ?fin
 case start=>
  refine⟨Agrees.refl F _,?_⟩
  constructor
  case nw=>exact(Keep.refl _ w).drew
  case q6=>intro _;exact t6
  all_goals (intro a;try simp only [rep_off]at a;cases a)
 case fin=>
  intro L a w' hall hI
  have h12:=hI.2.p12 (hall 12 (by simp))
  rw [←hI.2.p13 (hall 13 (by simp))]at h12
  exact hQ a w' hI.1 hI.2.nw h12
 case step=>
  intro i o L a w' ho hd hL hs hI
  have hi:=(Array.getElem?_eq_some_iff.1 ho).1
  simp only [List.size_toArray,List.length_cons,List.length_nil]at hi hs
  have kput:∀i,i<14→∀d,d<73→d∈[6,61,62,63,64,65,66,67,68,69,70,71]→∀(v:Value) {w2:World},Ins14 w base B n k c s0 fs (up (fun j=>L.getD j false) i true) (up (fun t=>a.eval (.tmp t)) d v) w2→Agrees F [6,61,62,63,64,65,66,67,68,69,70,71] (a.put (some d) v)∧Ins14 w base B n k c s0 fs (fun j=>(L.setIfInBounds i true).getD j false) (fun t=>(a.put (some d) v).eval (.tmp t)) w2:=fun i hi d hd hm v w2 h=>⟨hI.1.put hm,by rw [up_L (by omega),up_x (by rw [hI.1.size,hF];exact hd)];exact h⟩
  have kno:∀i,i<14→∀{w2:World},Ins14 w base B n k c s0 fs (up (fun j=>L.getD j false) i true) (fun t=>a.eval (.tmp t)) w2→Agrees F [6,61,62,63,64,65,66,67,68,69,70,71] (a.put none undef)∧Ins14 w base B n k c s0 fs (fun j=>(L.setIfInBounds i true).getD j false) (fun t=>(a.put none undef).eval (.tmp t)) w2:=fun i hi w2 h=>⟨hI.1,by rw [up_L (by omega)];exact h⟩
  have hi':i=0∨i=1∨i=2∨i=3∨i=4∨i=5∨i=6∨i=7∨i=8∨i=9∨i=10∨i=11∨i=12∨i=13:=by omega
  clear hi
  rcases hi' with rfl | rfl | rfl | rfl | rfl | rfl | rfl | rfl | rfl | rfl | rfl | rfl | rfl | rfl
  ·have ho':=ho
   simp only [List.getElem?_toArray,List.getElem?_cons_zero,List.getElem?_cons_succ,Option.some.injEq]at ho
   refine wpOp_in ho' (by rw [←ho]) ?_
   subst ho
   clear ho'
   simp only [Oper.wp,execOp,Sem.run_bind,make294,Result.andThen_ok,Sem.run_pure,Oper.upon_value]
   exact kput 0 (by decide) 61 (by decide) (by decide) _ (hI.2.s0 hL)
  ·have ho':=ho
   simp only [List.getElem?_toArray,List.getElem?_cons_zero,List.getElem?_cons_succ,Option.some.injEq]at ho
   refine wpOp_in ho' (by rw [←ho]) ?_
   subst ho
   clear ho'
   obtain⟨m,w2,e1,e2,e3⟩:=hI.2.s1 (hd ⟨0,.data⟩ (by simp) rfl) hL
   have e4:a.eval (.const (.int .i64 8))=.int .i64 8:=rfl
   have e5:a.eval (.const (.int .i64 84))=.int .i64 84:=rfl
   simp only [Oper.wp,execOp,Sem.run_bind,e1,e4,e5,e2,Result.andThen_ok,Sem.run_pure,Oper.upon_skip]
   exact kno 1 (by decide) e3
  ·have ho':=ho
   simp only [List.getElem?_toArray,List.getElem?_cons_zero,List.getElem?_cons_succ,Option.some.injEq]at ho
   refine wpOp_in ho' (by rw [←ho]) ?_
   subst ho
   clear ho'
   obtain⟨m,w2,e1,e2,e3⟩:=hI.2.s2 (hd ⟨0,.data⟩ (by simp) rfl) hL
   have e4:a.eval (.const (.int .i64 9))=.int .i64 9:=rfl
   have e5:a.eval (.const (.int .i64 85))=.int .i64 85:=rfl
   simp only [Oper.wp,execOp,Sem.run_bind,e1,e4,e5,e2,Result.andThen_ok,Sem.run_pure,Oper.upon_skip]
   exact kno 2 (by decide) e3
  ·have ho':=ho
   simp only [List.getElem?_toArray,List.getElem?_cons_zero,List.getElem?_cons_succ,Option.some.injEq]at ho
   refine wpOp_in ho' (by rw [←ho]) ?_
   subst ho
   clear ho'
   simp only [Oper.wp,execOp,Sem.run_bind,Result.andThen_ok,Sem.run_pure,Oper.upon_value]
   exact kput 3 (by decide) 62 (by decide) (by decide) _ (hI.2.s3 (hd ⟨0,.data⟩ (by simp) rfl) (hd ⟨1,.data⟩ (by simp) rfl) (hd ⟨2,.data⟩ (by simp) rfl) hL)
  ·have ho':=ho
   simp only [List.getElem?_toArray,List.getElem?_cons_zero,List.getElem?_cons_succ,Option.some.injEq]at ho
   refine wpOp_in ho' (by rw [←ho]) ?_
   subst ho
   clear ho'
   have e0:a.eval (.tmp 1)=.pointer (some ⟨B,0,none⟩):=hI.1.keep 1 (by decide)▸t1
   have hr:(execOp a.eval { dst:=some 63,op:=Op.fieldAddr 78 (Operand.tmp 1) 0,type:=0,pos:= "amqp.go:50",after:=#[],guard:=none }).run Tryz.prog w'=.ok (.value (.pointer (some ⟨B,0,none⟩))) w':=by
    simp only [execOp,e0]
    simp [go_sem]
   simp only [Oper.wp,hr,Oper.upon_value]
   exact kput 4 (by decide) 63 (by decide) (by decide) _ hI.2.s4
  ·have ho':=ho
   simp only [List.getElem?_toArray,List.getElem?_cons_zero,List.getElem?_cons_succ,Option.some.injEq]at ho
   refine wpOp_in ho' (by rw [←ho]) ?_
   subst ho
   clear ho'
   have e0:=hI.2.t4 (hd ⟨4,.data⟩ (by simp) rfl)
   have hB':=hI.2.nw.cell hB trivial
   have hr:(execOp a.eval { dst:=some 64,op:=Op.load 3 (Operand.tmp 63),type:=3,pos:= "amqp.go:50",after:=#[{ on:=4,ground:=Ground.data }],guard:=none }).run Tryz.prog w'=.ok (.value (.int .i64 k)) w':=by
    simp only [execOp,e0]
    simp [go_sem,hB']
   simp only [Oper.wp,hr,Oper.upon_value]
   exact kput 5 (by decide) 64 (by decide) (by decide) _ hI.2.s5
  ·have ho':=ho
   simp only [List.getElem?_toArray,List.getElem?_cons_zero,List.getElem?_cons_succ,Option.some.injEq]at ho
   refine wpOp_in ho' (by rw [←ho]) ?_
   subst ho
   clear ho'
   obtain⟨⟨m,e1,e2⟩,e3⟩:=hI.2.s6 hk (hd ⟨3,.data⟩ (by simp) rfl) hL
   have e0:=hI.2.t5 (hd ⟨5,.data⟩ (by simp) rfl)
   simp only [Oper.wp,execOp,Sem.run_bind,e0,e1,e2,Result.andThen_ok,Sem.run_pure,Oper.upon_value]
   exact kput 6 (by decide) 65 (by decide) (by decide) _ e3
  ·have ho':=ho
   simp only [List.getElem?_toArray,List.getElem?_cons_zero,List.getElem?_cons_succ,Option.some.injEq]at ho
   refine wpOp_in ho' (by rw [←ho]) ?_
   subst ho
   clear ho'
   have e0:a.eval (.tmp 3)=.int .u64 (n:Int):=hI.1.keep 3 (by decide)▸t3
   simp only [Oper.wp,execOp,Sem.run_bind,e0,Result.andThen_ok,Sem.run_pure,Oper.upon_value]
   exact kput 7 (by decide) 66 (by decide) (by decide) _ hI.2.s7
  ·have ho':=ho
   simp only [List.getElem?_toArray,List.getElem?_cons_zero,List.getElem?_cons_succ,Option.some.injEq]at ho
   refine wpOp_in ho' (by rw [←ho]) ?_
   subst ho
   clear ho'
   have e0:=hI.2.t7 (hd ⟨7,.data⟩ (by simp) rfl)
   have hr:(execOp a.eval { dst:=some 67,op:=Op.call { callee:=Callee.value (Operand.func 133),args:=#[Operand.tmp 66,Operand.const (Value.int IntKind.i64 1)],argTypes:=#[26,3] },type:=27,pos:= "amqp.go:50",after:=#[{ on:=7,ground:=Ground.data }],guard:=none }).run Tryz.prog w'=.ok (.enter 133 #[.int .u64 (n:Int),.int .i64 1]) w':=by
    simp [execOp,resolve,go_sem]
    simpa [Act.eval]using e0
   simp only [Oper.wp,hr,Oper.upon]
   refine(big_is n 1 hn (by decide) w').mono ?_
   rintro e w2 ⟨v,rfl,kv,hv⟩
   exact kput 8 (by decide) 67 (by decide) (by decide) _ ((hI.2.world kv).s8 hI.2.nw.size (fun m a a' b=>(hI.2.map_lt a a' b)) hv.out hL)
  ·have ho':=ho
   simp only [List.getElem?_toArray,List.getElem?_cons_zero,List.getElem?_cons_succ,Option.some.injEq]at ho
   refine wpOp_in ho' (by rw [←ho]) ?_
   subst ho
   clear ho'
   have e6:=hI.2.t6 (hd ⟨6,.data⟩ (by simp) rfl)
   have e8:∃A m cc,a.eval (.tmp 67)=.slice A m cc:=(let ⟨S,e1,_⟩:=hI.2.by8 (hd ⟨8,.data⟩ (by simp) rfl) hL;let ⟨A,cc,e,_⟩:=e1.here;⟨A,_,cc,e⟩)
   obtain⟨A,m,cc,e8⟩:=e8
   have e9:=hI.2.s9 (hd ⟨6,.data⟩ (by simp) rfl) (hd ⟨8,.data⟩ (by simp) rfl) hL
   simp only [e6,e8]at e9
   have hr:(execOp a.eval { dst:=some 68,op:=Op.build 143 #[(0,Operand.tmp 65),(1,Operand.tmp 67)],type:=143,pos:= "amqp.go:50",after:=#[{ on:=6,ground:=Ground.data },{ on:=8,ground:=Ground.data }],guard:=none }).run Tryz.prog w'=.ok (.value (.agg #[.int .i64 (c.toNat:Int),.slice A m cc])) w':=by
    simp only [execOp,List.map_toArray,List.map_cons,List.map_nil,e6,e8,Sem.run_bind,build143,Result.andThen_ok,Sem.run_pure]
   simp only [Oper.wp,hr,Oper.upon_value]
   exact kput 9 (by decide) 68 (by decide) (by decide) _ e9
  ·have ho':=ho
   simp only [List.getElem?_toArray,List.getElem?_cons_zero,List.getElem?_cons_succ,Option.some.injEq]at ho
   refine wpOp_in ho' (by rw [←ho]) ?_
   subst ho
   clear ho'
   obtain⟨v,e1,e2,e3⟩:=hI.2.s10 (hd ⟨9,.data⟩ (by simp) rfl) hL
   have hr:(execOp a.eval { dst:=some 69,op:=Op.buildSlice 140 1 #[(0,Operand.tmp 68)],type:=140,pos:= "amqp.go:50",after:=#[{ on:=9,ground:=Ground.data }],guard:=none }).run Tryz.prog w'=.ok (.value (.slice (some ⟨w'.heap.size,0,none⟩) 1 1)) (w'.alloc (.cells #[.int .i64 (c.toNat:Int),v] 143)):=by
    obtain⟨A,m,cc,rfl⟩:=e2
    simp only [execOp,List.map_toArray,List.map_cons,List.map_nil,e1,Sem.run_bind,slice143,Result.andThen_ok,Sem.run_pure]
   simp only [Oper.wp,hr,Oper.upon_value]
   exact kput 10 (by decide) 69 (by decide) (by decide) _ e3
  ·have ho':=ho
   simp only [List.getElem?_toArray,List.getElem?_cons_zero,List.getElem?_cons_succ,Option.some.injEq]at ho
   refine wpOp_in ho' (by rw [←ho]) ?_
   subst ho
   clear ho'
   have e0:a.eval (.tmp 6)=s0:=hI.2.q6 (by cases e:L.getD 13 false with | false=>rfl | true=>rw [(hI.2.d12 (hI.2.d13 e)).2]at hL;cases hL)
   simp only [Oper.wp,execOp,Sem.run_bind,e0,Result.andThen_ok,Sem.run_pure,Oper.upon_value]
   exact kput 11 (by decide) 70 (by decide) (by decide) _ hI.2.s11
  ·have ho':=ho
   simp only [List.getElem?_toArray,List.getElem?_cons_zero,List.getElem?_cons_succ,Option.some.injEq]at ho
   refine wpOp_in ho' (by rw [←ho]) ?_
   subst ho
   clear ho'
   obtain⟨r,w2,e1,e2⟩:=hI.2.s12 hb hrow hfs hfs2 (hd ⟨10,.data⟩ (by simp) rfl) (hd ⟨11,.data⟩ (by simp) rfl) hL
   have e0:=hI.2.t11 (hd ⟨11,.data⟩ (by simp) rfl)
   have hr:(execOp a.eval { dst:=some 71,op:=Op.call { callee:=Callee.builtin Builtin.append,args:=#[Operand.tmp 69,Operand.tmp 70],argTypes:=#[140,140] },type:=140,pos:= "amqp.go:50",after:=#[{ on:=10,ground:=Ground.data },{ on:=11,ground:=Ground.data },{ on:=8,ground:=Ground.chain }],guard:=none }).run Tryz.prog w'=.ok (.value r) w2:=by
    unfold execOp
    simp only [resolve,invoke,builtin,Sem.run_bind,Sem.run_pure,Result.andThen_ok,List.map_toArray,List.map_cons,List.map_nil,e0,e1]
   simp only [Oper.wp,hr,Oper.upon_value]
   exact kput 12 (by decide) 71 (by decide) (by decide) _ e2
  ·have ho':=ho
   simp only [List.getElem?_toArray,List.getElem?_cons_zero,List.getElem?_cons_succ,Option.some.injEq]at ho
   refine wpOp_in ho' (by rw [←ho]) ?_
   subst ho
   clear ho'
   simp only [Oper.wp,execOp,Sem.run_bind,Result.andThen_ok,Sem.run_pure,Oper.upon_value]
   exact kput 13 (by decide) 6 (by decide) (by decide) _ (hI.2.s13 (hd ⟨12,.data⟩ (by simp) rfl))
end Go.Proofs.YtfoegolfadhmjaaGreatDoor
