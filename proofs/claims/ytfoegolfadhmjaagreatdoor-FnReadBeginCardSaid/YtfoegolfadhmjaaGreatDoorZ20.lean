/- spec.lengthed: with a count. n. -/
import Derived.Test.YtfoegolfadhmjaaGreatDoorZ15
set_option linter.all false
set_option maxRecDepth 100000
set_option maxHeartbeats 8000000
namespace Go.Proofs.YtfoegolfadhmjaaGreatDoor
open Go.RowKit Go.WideShapes
theorem lengthed_n(c8 c32:UInt8)(v:Value)(l:List UInt8)(n:Nat)(hn:n≤1000)(w:World)(hv:SlC w v l)(hl:l.length≤1000000000):
 Calls Tryz.prog 83 #[.int .i64 (c8.toNat:Int),.int .i64 (c32.toNat:Int),v,(.int .i64 (n:Int))] w fun e w'=>∃sl,e=.returned sl∧New w w'∧RowG 143 2 Pcs w' w.heap.size sl (lngc c8 c32 l n):=by
 have HV:=Lib.hid hv
 obtain⟨A,c,rfl,-⟩:=hv
 obtain⟨N,hN⟩:∃N,N=l.length:=⟨_,rfl⟩
 have HN:=Lib.hid hN
 rw [←hN]at HV hl ⊢
 clear hN
 go_enter Tryz.func83,Tryz.ntmps83
 go_wp2_with fail
 go_loopg [9,20] 2 (fun kk s9 s20 wr=>New w wr∧wr.heap[w.heap.size]? =some (.cells #[.int .i64 (c8.toNat:Int),.int .i64 1,.int .i64 (c32.toNat:Int),.int .i64 4] 296 (0,0))∧((kk=2∧s20=.int .i64 0∧RowG 143 2 Pcs wr (w.heap.size+1) s9 [])∨(kk=1∧s20=.int .i64 1∧RowG 143 2 Pcs wr (w.heap.size+1) s9 (if n≤255∧l.length+1≤255 then [(c8,beB 1 (l.length+1)++(beB 1 n++l))]else []))∨(kk=0∧s20=.int .i64 2∧RowG 143 2 Pcs wr (w.heap.size+1) s9 (lngc c8 c32 l n))))
 case atStart=>exact⟨(Keep.refl _ w).alloc _,blk_new w _,.inl ⟨rfl,rfl,RowG.nil pieceCells⟩⟩
 case round=>
  obtain⟨kr,hfm,hst⟩:=hrel
  rcases hst with⟨rfl,rfl,hrow⟩ | ⟨rfl,rfl,hrow⟩ | ⟨rfl,rfl,hrow⟩
  ·obtain⟨A9,c9,hs9⟩:=hrow.shape
   subst hs9
   obtain⟨us,hus⟩:∃us,us=([]:List (UInt8×List UInt8)):=⟨_,rfl⟩
   rw [←hus]at hrow ⊢
   have HUS:=Lib.hid hus
   have hul:us.length≤1:=by rw [hus];simp
   clear hus
   have g0:=(blk_cell hfm 0).trans rfl
   have g1:=(blk_cell hfm 1).trans rfl
   have HROW:=Lib.hid hrow
   have HFM:=Lib.hid hfm
   have hsz:=kr.size
   have hszw:=lt_blk hfm
   have hownlt:=Lib.hid (fun g (hg:Value.ownBlock (.slice A9 us.length c9)=some g)=>hrow.ownLt hg)
   clear hrow hfm
   have kA:=((Keep.refl (fun _=>True) wr).alloc (.cells #[.int .i64 (c8.toNat:Int),.int .i64 1] 296)).alloc (.cells #[] 5)
   have hF:=blk_alloc (blk_new wr (.cells #[.int .i64 (c8.toNat:Int),.int .i64 1] 296)) (.cells #[] 5)
   have hE:=blk_new (wr.alloc (.cells #[.int .i64 (c8.toNat:Int),.int .i64 1] 296)) (.cells #[] 5)
   rw [World.size_alloc]at hE
   have x0:=(blk_cell hF 0).trans rfl
   have x1:=(blk_cell hF 1).trans rfl
   have HEmp:Hid (SlC ((wr.alloc (.cells #[.int .i64 (c8.toNat:Int),.int .i64 1] 296)).alloc (.cells #[] 5)) (.slice (some ⟨wr.heap.size+1,0,none⟩) 0 0) []):=Lib.hid ⟨_,0,rfl,Nat.le_refl _,by omega,fun h=>absurd rfl h⟩
   by_cases hc:n≤255
   case neg=>
    have t1:decide ((255:Int)<(n:Int))=true:=by simp;omega
    go_wp2
    go_roundg 1
    case measure=>omega
    case rel=>
     refine⟨kr.trans kA,kA.blk HFM.out trivial,.inr (.inl ⟨rfl,rfl,?_⟩)⟩
     rw [if_neg (by rw [←HN.out];omega)]
     have:=HROW.out.keep kA (fun _ _=>trivial)
     exact Eq.mp (congrArg (fun z=>RowG 143 2 Pcs _ (w.heap.size+1) (.slice A9 us.length c9) z) HUS.out) this
   have t1:decide ((255:Int)<(n:Int))=false:=by simp;omega
   have hun:=u64n (n:=n) (by omega)
   have hbig:=Lib.hid (big_is n 1 (by omega) (by omega) ((wr.alloc (.cells #[.int .i64 (c8.toNat:Int),.int .i64 1] 296)).alloc (.cells #[] 5)).drew)
   go_wp2_with fail
   go_upto_region 9 with fail
   go_cut [12,13] (fun s12 s13 wc=>∃(Ah:Option Addr) (nh ch:Nat),s13=.slice Ah nh ch∧s12=.int .i64 ((N:Int)+1)∧New ((wr.alloc (.cells #[.int .i64 (c8.toNat:Int),.int .i64 1] 296)).alloc (.cells #[] 5)) wc∧RowB wc ((wr.alloc (.cells #[.int .i64 (c8.toNat:Int),.int .i64 1] 296)).alloc (.cells #[] 5)).drew.heap.size (.slice Ah nh ch) (beB 1 n)∧wc.cell? ⟨wr.heap.size,0,none⟩=some (.int .i64 (c8.toNat:Int))∧wc.cell? ⟨wr.heap.size,1,none⟩=some (.int .i64 1))
   case first=>
    go_region_law (first | (go_simp;go_at_call 133;refine hbig.out.mono ?_;rintro e w3 ⟨vh,rfl,k3,hh3⟩;obtain⟨Ah,nh,ch,hvh⟩:∃A n c,vh=.slice A n c:=(let ⟨A,c,e⟩:=hh3.shape;⟨A,_,c,e⟩);subst hvh;have x03:=k3.cell (show((wr.alloc (.cells #[.int .i64 (c8.toNat:Int),.int .i64 1] 296)).alloc (.cells #[] 5)).drew.cell? _=_ from x0) trivial;have x13:=k3.cell (show((wr.alloc (.cells #[.int .i64 (c8.toNat:Int),.int .i64 1] 296)).alloc (.cells #[] 5)).drew.cell? _=_ from x1) trivial))
    all_goals (go_wp2_with fail;go_meet;exact⟨Ah,nh,ch,rfl,congrArg _ (IntWalk.i64_in _ ⟨by omega,by omega⟩),((Keep.refl _ _).drew).trans k3,hh3,x03,x13⟩)
   case rest=>
    obtain⟨Ah,nh,ch,rfl,rfl,k3,hh3,x03,x13⟩:=hcut
    have hs3:=k3.size
    have kA3:=kA.trans k3
    obtain⟨w3,rfl⟩:∃w3,w3=wc:=⟨_,rfl⟩
    by_cases hc2:N+1≤255
    case neg=>
     have t2:decide ((255:Int)<(N:Int)+1)=true:=by simp;omega
     go_wp2
     go_roundg 1
     case measure=>omega
     case rel=>
      refine⟨kr.trans kA3,kA3.blk HFM.out trivial,.inr (.inl ⟨rfl,rfl,?_⟩)⟩
      rw [if_neg (by rw [←HN.out];omega)]
      have:=HROW.out.keep kA3 (fun _ _=>trivial)
      exact Eq.mp (congrArg (fun z=>RowG 143 2 Pcs _ (w.heap.size+1) (.slice A9 us.length c9) z) HUS.out) this
    have t2:decide ((255:Int)<(N:Int)+1)=false:=by simp;omega
    have hu:=u64n (n:=N+1) (by omega)
    have hu:IntKind.u64.wrap ((N:Int)+1)=(N:Int)+1:=by simpa using hu
    have HH3:=hh3.out.here
    have hpm:=piece_made w3.drew (N+1) 1 (by omega) (by omega) (beB 1 n) l _ _ (HH3.toC.keep ((Keep.refl _ _).drew)) (((HV.out.keep (kr.trans kA3)).keep ((Keep.refl _ _).drew))) (by have:=HN.out;simp [beB_len];omega)
    have kW:=kA3.drew
    have HPM:=Lib.hid hpm
    have KW:=Lib.hid kW
    clear hpm kW
    go_wp2_with fail
    go_region_law (first
     | (go_simp;go_at_call 133;refine HPM.out.mono ?_;rintro e w4 ⟨v4,v5,w5,v6,w6,rfl,k4,hr5,k5,hr6,k6,hrow6⟩;have y4:=k4.cell (show(w3.drew).cell? _=_ from x03) trivial;have y5:=k5.cell (show(w3.drew).cell? _=_ from x03) trivial;have y6:=k6.cell (show(w3.drew).cell? _=_ from x03) trivial;obtain⟨A6,n6,c6,hs6⟩:∃A n c,v6=.slice A n c:=(let ⟨A,c,e⟩:=hrow6.shape;⟨A,_,c,e⟩);subst hs6;have y7:=cell_alloc y6 (.cells #[.int .i64 (c8.toNat:Int),(.slice A6 n6 c6)] 143);have kN:=(Keep.refl (fun _=>True) w6).alloc (.cells #[.int .i64 (c8.toNat:Int),(.slice A6 n6 c6)] 143);obtain⟨g7,cap7,w7,hap7,hrow7,k7,_⟩:=((HROW.out.keep (KW.out.trans k6) (fun _ _=>trivial)).keep kN (fun _ _=>trivial)).step pieceCells (vs:=[(c8,beB 1 (N+1)++beB 1 n++l)]) Tryz.underlying140 info143 rfl (by omega) (by omega) w6.heap.size 0 1 [.int .i64 (c8.toNat:Int),(.slice A6 n6 c6)] (fun q z hq=>by rw [blk_cell (blk_new w6 (.cells #[.int .i64 (c8.toNat:Int),(.slice A6 n6 c6)] 143)),Nat.zero_add];simpa using hq) ((hrow6.out.step kN.size (fun i hi _=>kN.block i hi trivial) (fun b hb hok=>⟨Nat.le_trans (Nat.le_trans hszw (KW.out.size)) hok,fun e=>Nat.lt_irrefl _ (Nat.lt_of_lt_of_le (hownlt.out b e.symm) (Nat.le_trans KW.out.size hok))⟩)).imp fun w h=>Pcs.cons h.toC .nil) (by simp) (by simp;omega) (Nat.le_trans (Nat.le_trans (Nat.le_trans hszw KW.out.size) k6.size) kN.size);simp only [List.length_singleton]at hap7 hrow7)
     | (refine at_dst 61 (by rfl) ?_;refine step_append_eq hr5 (by rfl) _ _ (by rfl) (by rfl) (by rfl) ?_)
     | (refine at_dst 63 (by rfl) ?_;refine step_append_eq hr6 (by rfl) _ _ (by rfl) (by rfl) (by rfl) ?_)
     | (refine at_dst 66 (by rfl) ?_;refine step_append_eq hap7 (by rfl) _ _ (by rfl) (by rfl) (by rfl) ?_))
    all_goals
     go_wp2
     go_roundg 1
     case measure=>omega
     case rel=>
      have kall:=(KW.out.trans k6).trans kN
      have hfar:=HROW.out.far
      have hE:us++[(c8,beB 1 (N+1)++beB 1 n++l)]=((if n≤255∧l.length+1≤255 then [(c8,beB 1 (l.length+1)++(beB 1 n++l))]else []):List (UInt8×List UInt8)):=by
       rw [HUS.out,HN.out,if_pos ⟨by omega,by rw [←HN.out];omega⟩];simp
      refine⟨(kr.trans kall).then k7 (fun i hi _=>hfar i (by omega)),k7.blk (kall.blk HFM.out trivial) (hfar _ (by omega)),.inr (.inl ⟨rfl,rfl,?_⟩)⟩
      exact Eq.mp (congrArg (fun z=>RowG 143 2 Pcs w7 (w.heap.size+1) (.slice (some ⟨g7,0,none⟩) (us.length+1) cap7) z) hE) hrow7
  ·obtain⟨A9,c9,hs9⟩:=hrow.shape
   subst hs9
   obtain⟨us,hus⟩:∃us,us=((if n≤255∧l.length+1≤255 then [(c8,beB 1 (l.length+1)++(beB 1 n++l))]else []):List (UInt8×List UInt8)):=⟨_,rfl⟩
   rw [←hus]at hrow ⊢
   have HUS:=Lib.hid hus
   have hul:us.length≤1:=by rw [hus];split<;>simp
   clear hus
   have g0:=(blk_cell hfm 2).trans rfl
   have g1:=(blk_cell hfm 3).trans rfl
   have HROW:=Lib.hid hrow
   have HFM:=Lib.hid hfm
   have hsz:=kr.size
   have hszw:=lt_blk hfm
   have hownlt:=Lib.hid (fun g (hg:Value.ownBlock (.slice A9 us.length c9)=some g)=>hrow.ownLt hg)
   clear hrow hfm
   have kA:=((Keep.refl (fun _=>True) wr).alloc (.cells #[.int .i64 (c32.toNat:Int),.int .i64 4] 296)).alloc (.cells #[] 5)
   have hF:=blk_alloc (blk_new wr (.cells #[.int .i64 (c32.toNat:Int),.int .i64 4] 296)) (.cells #[] 5)
   have hE:=blk_new (wr.alloc (.cells #[.int .i64 (c32.toNat:Int),.int .i64 4] 296)) (.cells #[] 5)
   rw [World.size_alloc]at hE
   have x0:=(blk_cell hF 0).trans rfl
   have x1:=(blk_cell hF 1).trans rfl
   have HEmp:Hid (SlC ((wr.alloc (.cells #[.int .i64 (c32.toNat:Int),.int .i64 4] 296)).alloc (.cells #[] 5)) (.slice (some ⟨wr.heap.size+1,0,none⟩) 0 0) []):=Lib.hid ⟨_,0,rfl,Nat.le_refl _,by omega,fun h=>absurd rfl h⟩
   have hun:=u64n (n:=n) (by omega)
   have hbig:=Lib.hid (big_is n 4 (by omega) (by omega) ((wr.alloc (.cells #[.int .i64 (c32.toNat:Int),.int .i64 4] 296)).alloc (.cells #[] 5)).drew)
   go_wp2_with fail
   go_upto_region 9 with fail
   go_cut [12,13] (fun s12 s13 wc=>∃(Ah:Option Addr) (nh ch:Nat),s13=.slice Ah nh ch∧s12=.int .i64 ((N:Int)+4)∧New ((wr.alloc (.cells #[.int .i64 (c32.toNat:Int),.int .i64 4] 296)).alloc (.cells #[] 5)) wc∧RowB wc ((wr.alloc (.cells #[.int .i64 (c32.toNat:Int),.int .i64 4] 296)).alloc (.cells #[] 5)).drew.heap.size (.slice Ah nh ch) (beB 4 n)∧wc.cell? ⟨wr.heap.size,0,none⟩=some (.int .i64 (c32.toNat:Int))∧wc.cell? ⟨wr.heap.size,1,none⟩=some (.int .i64 4))
   case first=>
    go_region_law (first | (go_simp;go_at_call 133;refine hbig.out.mono ?_;rintro e w3 ⟨vh,rfl,k3,hh3⟩;obtain⟨Ah,nh,ch,hvh⟩:∃A n c,vh=.slice A n c:=(let ⟨A,c,e⟩:=hh3.shape;⟨A,_,c,e⟩);subst hvh;have x03:=k3.cell (show((wr.alloc (.cells #[.int .i64 (c32.toNat:Int),.int .i64 4] 296)).alloc (.cells #[] 5)).drew.cell? _=_ from x0) trivial;have x13:=k3.cell (show((wr.alloc (.cells #[.int .i64 (c32.toNat:Int),.int .i64 4] 296)).alloc (.cells #[] 5)).drew.cell? _=_ from x1) trivial))
    all_goals (go_wp2_with fail;go_meet;exact⟨Ah,nh,ch,rfl,congrArg _ (IntWalk.i64_in _ ⟨by omega,by omega⟩),((Keep.refl _ _).drew).trans k3,hh3,x03,x13⟩)
   case rest=>
    obtain⟨Ah,nh,ch,rfl,rfl,k3,hh3,x03,x13⟩:=hcut
    have hs3:=k3.size
    have kA3:=kA.trans k3
    obtain⟨w3,rfl⟩:∃w3,w3=wc:=⟨_,rfl⟩
    have hu:=u64n (n:=N+4) (by omega)
    have hu:IntKind.u64.wrap ((N:Int)+4)=(N:Int)+4:=by simpa using hu
    have HH3:=hh3.out.here
    have hpm:=piece_made w3.drew (N+4) 4 (by omega) (by omega) (beB 4 n) l _ _ (HH3.toC.keep ((Keep.refl _ _).drew)) (((HV.out.keep (kr.trans kA3)).keep ((Keep.refl _ _).drew))) (by have:=HN.out;simp [beB_len];omega)
    have kW:=kA3.drew
    have HPM:=Lib.hid hpm
    have KW:=Lib.hid kW
    clear hpm kW
    go_wp2_with fail
    go_region_law (first
     | (go_simp;go_at_call 133;refine HPM.out.mono ?_;rintro e w4 ⟨v4,v5,w5,v6,w6,rfl,k4,hr5,k5,hr6,k6,hrow6⟩;have y4:=k4.cell (show(w3.drew).cell? _=_ from x03) trivial;have y5:=k5.cell (show(w3.drew).cell? _=_ from x03) trivial;have y6:=k6.cell (show(w3.drew).cell? _=_ from x03) trivial;obtain⟨A6,n6,c6,hs6⟩:∃A n c,v6=.slice A n c:=(let ⟨A,c,e⟩:=hrow6.shape;⟨A,_,c,e⟩);subst hs6;have y7:=cell_alloc y6 (.cells #[.int .i64 (c32.toNat:Int),(.slice A6 n6 c6)] 143);have kN:=(Keep.refl (fun _=>True) w6).alloc (.cells #[.int .i64 (c32.toNat:Int),(.slice A6 n6 c6)] 143);obtain⟨g7,cap7,w7,hap7,hrow7,k7,_⟩:=((HROW.out.keep (KW.out.trans k6) (fun _ _=>trivial)).keep kN (fun _ _=>trivial)).step pieceCells (vs:=[(c32,beB 4 (N+4)++beB 4 n++l)]) Tryz.underlying140 info143 rfl (by omega) (by omega) w6.heap.size 0 1 [.int .i64 (c32.toNat:Int),(.slice A6 n6 c6)] (fun q z hq=>by rw [blk_cell (blk_new w6 (.cells #[.int .i64 (c32.toNat:Int),(.slice A6 n6 c6)] 143)),Nat.zero_add];simpa using hq) ((hrow6.out.step kN.size (fun i hi _=>kN.block i hi trivial) (fun b hb hok=>⟨Nat.le_trans (Nat.le_trans hszw (KW.out.size)) hok,fun e=>Nat.lt_irrefl _ (Nat.lt_of_lt_of_le (hownlt.out b e.symm) (Nat.le_trans KW.out.size hok))⟩)).imp fun w h=>Pcs.cons h.toC .nil) (by simp) (by simp;omega) (Nat.le_trans (Nat.le_trans (Nat.le_trans hszw KW.out.size) k6.size) kN.size);simp only [List.length_singleton]at hap7 hrow7)
     | (refine at_dst 61 (by rfl) ?_;refine step_append_eq hr5 (by rfl) _ _ (by rfl) (by rfl) (by rfl) ?_)
     | (refine at_dst 63 (by rfl) ?_;refine step_append_eq hr6 (by rfl) _ _ (by rfl) (by rfl) (by rfl) ?_)
     | (refine at_dst 66 (by rfl) ?_;refine step_append_eq hap7 (by rfl) _ _ (by rfl) (by rfl) (by rfl) ?_))
    all_goals
     go_wp2
     go_roundg 0
     case measure=>omega
     case rel=>
      have kall:=(KW.out.trans k6).trans kN
      have hfar:=HROW.out.far
      have hE:us++[(c32,beB 4 (N+4)++beB 4 n++l)]=(lngc c8 c32 l n:List (UInt8×List UInt8)):=by
       rw [HUS.out,HN.out];unfold lngc;simp
      refine⟨(kr.trans kall).then k7 (fun i hi _=>hfar i (by omega)),k7.blk (kall.blk HFM.out trivial) (hfar _ (by omega)),.inr (.inr ⟨rfl,rfl,?_⟩)⟩
      exact Eq.mp (congrArg (fun z=>RowG 143 2 Pcs w7 (w.heap.size+1) (.slice (some ⟨g7,0,none⟩) (us.length+1) cap7) z) hE) hrow7
  ·obtain⟨A9,c9,hs9⟩:=hrow.shape
   subst hs9
   go_wp2
   go_ret
   exact⟨_,rfl,kr,hrow.mono (by omega)⟩
end Go.Proofs.YtfoegolfadhmjaaGreatDoor
