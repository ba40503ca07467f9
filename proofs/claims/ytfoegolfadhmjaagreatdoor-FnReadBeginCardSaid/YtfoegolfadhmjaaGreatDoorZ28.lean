/- spec.Values. -/
import Derived.Test.YtfoegolfadhmjaaGreatDoorZ07
import Derived.Test.YtfoegolfadhmjaaGreatDoorZ08
import Derived.Test.YtfoegolfadhmjaaGreatDoorZ17
set_option linter.all false
set_option maxRecDepth 100000
set_option maxHeartbeats 8000000
namespace Go.Proofs.YtfoegolfadhmjaaGreatDoor
open Go.RowKit Go.WideShapes Go.Sort
theorem own_app(w0 w:World)(k0:New w0 w)(sk:Value)(n:Nat)(cells:List Value)(h:w.ownsRow w0.heap.size 78 6 sk n cells)(l:List V)(v:Value)(cl:List Value)(hs:SlM w v l.length cl)(hm:Mem w l cl)(hn:n+l.length≤1000000):
 ∃sk' w',(Builtin.append_ #[43,43] 43 #[sk,v]).run Tryz.prog w=.ok sk' w'∧w'.ownsRow w0.heap.size 78 6 sk' (n+l.length) (cells++cl)∧New w0 w'∧Keep (fun b=>some b≠sk.ownBlock) w w':=by
 obtain⟨i0,hi,hz,hsz,hb⟩:=info_parts info78
 obtain⟨A,c,rfl,hc1,hc2,hl,hA⟩:=hs
 have far:∀b,b<w0.heap.size→some b≠sk.ownBlock:=fun b hb'=>by
  rcases h.2 with⟨rfl,_⟩ | ⟨g,cap,cur,rfl,hg,_⟩
  ·intro e;cases e
  ·intro e
   injection e with e
   simp at e
   omega
 cases A with
 | some ad=>
   obtain⟨v',w',hr,h2,h3,_,h5⟩:=run_append_own_at (P:=Tryz.prog) (w:=w) w0.heap.size 43 43 78 i0 _ 6 88 Tryz.underlying43 hi hz hsz hb rfl (by omega) sk n cells h ad l.length c cl hl (fun j u hj=>by
    have hne:l.length≠0:=by
     intro e
     rw [e]at hl
     have:cl=[]:=List.eq_nil_of_length_eq_zero (by omega)
     rw [this]at hj
     simp at hj
    obtain⟨d,i,he,hd⟩:=hA hne
    injection he with he
    subst he
    have hplain:(⟨d,i,none⟩:Addr).add j=⟨d,i+j,none⟩:=by unfold Addr.add;split<;>simp_all
    rw [hplain]
    exact hd j u hj) hm.one (by unfold maxLen;omega) (by omega) k0.size
   have kk:Keep (fun k=>some k≠sk.ownBlock) w w':=Keep.of_grown h3 (fun k hk=>hk)
   exact⟨v',w',hr,h2,k0.then kk (fun i hi _=>far i hi),kk⟩
 | none=>
   have hl0:l=[]:=by
    rcases l with _ | ⟨x,l⟩
    ·rfl
    ·obtain⟨d,i,he,_⟩:=hA (by simp)
     cases he
   subst hl0
   have hcl:cl=[]:=List.eq_nil_of_length_eq_zero (by simpa using hl)
   subst hcl
   have hsh:∃A c,sk=.slice A n c∧n≤c:=by
    rcases h.2 with⟨rfl,h0⟩ | ⟨g,cap,cur,rfl,hg,hb,hn,_⟩
    ·rw [h0];exact⟨none,0,rfl,Nat.le_refl _⟩
    ·exact⟨_,cap,rfl,hn⟩
   obtain⟨A',c',rfl,hle⟩:=hsh
   refine⟨_,w,?_,by rw [List.append_nil];exact h,k0,Keep.refl _ _⟩
   exact run_append_nothing w 43 43 43 78 i0 Tryz.underlying43 hi A' n c' hle _ (Src.ofNil w Tryz.underlying43 c)
theorem values_val(N:Nat):N≤1000000→∀(v:V),cnt v≤N→∀(w:World) (x:Value),VM w v x→Calls Tryz.prog 39 #[x] w fun e w'=>e=.returned (.int .i64 (cnt v:Int))∧New w w':=by
 induction N with
 | zero=>
   intro _ v h
   cases v
   simp only [cnt]at h
   omega
 | succ N ih=>
   intro hmx v hN w x hx
   obtain⟨k,n,t,ks,o,ds⟩:=v
   obtain⟨sk,sd,rfl,hn,hks,hds⟩:=hx.inv
   obtain⟨A1,c1,rfl,hl1,hl1'⟩:=hks.shape
   obtain⟨A2,c2,rfl,hl2,hl2'⟩:=hds.shape
   have hN':1+cnts (ks++ds)≤N+1:=by simp only [cnt]at hN;rw [cnts_append];omega
   have hcv:cnt (.mk k n t ks o ds)=1+cnts (ks++ds):=by simp only [cnt];rw [cnts_append];omega
   have hll:=len_cnts (ks++ds)
   have hla:ks.length+ds.length≤1000000:=by rw [List.length_append]at hll;omega
   have IH:=Lib.hid (ih (by omega))
   obtain⟨cl1,hs1,hm1⟩:=hks
   obtain⟨cl2,hs2,hm2⟩:=hds
   rw [hcv]
   obtain⟨L,hL⟩:∃L,L=ks++ds:=⟨_,rfl⟩
   rw [←hL]at hN' hll ⊢
   have HL:=Lib.hid hL
   have hlenL:L.length=ks.length+ds.length:=by rw [hL,List.length_append]
   clear hl1 hl1' hl2 hl2' hx hN hcv ih
   obtain⟨a,ha⟩:∃a,a=ks.length:=⟨_,rfl⟩
   obtain⟨b,hb⟩:∃b,b=ds.length:=⟨_,rfl⟩
   rw [←ha]at hs1 hlenL hla ⊢
   rw [←hb]at hs2 hlenL hla ⊢
   have M1:=Lib.hid ha
   have M2:=Lib.hid hb
   have kB:=((Keep.refl (fun _=>True) w).alloc (.cells #[.int .i64 k,.int .u64 (n:Int),.string ⟨t.toArray⟩,.slice A1 a c1,.int .i64 o,.slice A2 b c2] 78))
   have k0:=(kB.alloc (.cells #[] 78)).drew
   have hbx:=blk_alloc (blk_new w (.cells #[.int .i64 k,.int .u64 (n:Int),.string ⟨t.toArray⟩,.slice A1 a c1,.int .i64 o,.slice A2 b c2] 78)) (.cells #[] 78)
   have own0:((w.alloc (.cells #[.int .i64 k,.int .u64 (n:Int),.string ⟨t.toArray⟩,.slice A1 a c1,.int .i64 o,.slice A2 b c2] 78)).alloc (.cells #[] 78)).drew.ownsRow w.heap.size 78 6 (.slice (some ⟨w.heap.size+1,0,none⟩) 0 0) 0 []:=
    ⟨rfl,.inr ⟨w.heap.size+1,0,#[],rfl,by omega,by have:=blk_new (w.alloc (.cells #[.int .i64 k,.int .u64 (n:Int),.string ⟨t.toArray⟩,.slice A1 a c1,.int .i64 o,.slice A2 b c2] 78)) (.cells #[] 78);rw [World.size_alloc]at this;exact this,Nat.le_refl _,Nat.zero_le _,rfl,rfl⟩⟩
   obtain⟨sk2,w2,hap1,own2,k2,kk2⟩:=own_app w _ k0 _ _ _ own0 ks _ cl1 (by rw [←M1.out];exact hs1.keep k0) (hm1.keep k0) (by rw [←M1.out];omega)
   have hb2:=kk2.blk (show((w.alloc (.cells #[.int .i64 k,.int .u64 (n:Int),.string ⟨t.toArray⟩,.slice A1 a c1,.int .i64 o,.slice A2 b c2] 78)).alloc (.cells #[] 78)).drew.heap[w.heap.size]? =_ from hbx) (by intro e;injection e with e;simp at e)
   obtain⟨sk3,w3,hap2,own3,k3,kk3⟩:=own_app w _ k2 _ _ _ own2 ds _ cl2 (by rw [←M2.out];exact hs2.keep k2) (hm2.keep k2) (by rw [←M1.out,←M2.out];omega)
   have hLM:LM w3 L sk3:=by
    refine⟨cl1++cl2,?_,by rw [hL];exact(hm1.keep k3).append (hm2.keep k3)⟩
    have:=slM_own own3
    simp only [List.nil_append,Nat.zero_add,←M1.out,←M2.out]at this
    rw [hlenL]
    exact this
   have b3:=(blk_cell hbx 3).trans rfl
   have b5:=(blk_cell hbx 5).trans rfl
   have q3:=(blk_cell (blk_new w (.cells #[.int .i64 k,.int .u64 (n:Int),.string ⟨t.toArray⟩,.slice A1 a c1,.int .i64 o,.slice A2 b c2] 78)) 3).trans rfl
   have q5:=(blk_cell (blk_new w (.cells #[.int .i64 k,.int .u64 (n:Int),.string ⟨t.toArray⟩,.slice A1 a c1,.int .i64 o,.slice A2 b c2] 78)) 5).trans rfl
   have d5:=(blk_cell hb2 5).trans rfl
   have d3:=(blk_cell hb2 3).trans rfl
   have HM:=Lib.hid hLM
   obtain⟨A3,c3,rfl,-,hc3⟩:=hLM.shape
   rw [hlenL]at hap2
   have hlm:L.length≤1000000:=by omega
   obtain⟨m,hm⟩:∃m,m=L.length:=⟨_,rfl⟩
   rw [←hlenL,←hm]at hap2
   rw [←hm]at HM hlm
   have MM:=Lib.hid hm
   have K3:=Lib.hid k3
   have HAP1:=Lib.hid hap1
   have HAP2:=Lib.hid hap2
   have hsk2:∃A c n,sk2=.slice A n c:=by
    rcases own2.2 with⟨e,_⟩ | ⟨g,cap,cur,e,_⟩
    ·exact⟨_,_,_,e⟩
    ·exact⟨_,_,_,e⟩
   obtain⟨A4,c4,n4,rfl⟩:=hsk2
   clear hs1 hs2 hm1 hm2 own0 own2 own3 kk2 kk3 hb2 hbx hL hlenL hll ha hb hm k3 k2 k0 kB hap1 hap2 hLM
   go_enter Tryz.func39,Tryz.ntmps39
   go_upto_region 2 with fail
   go_cut [12,13,14] (fun s12 s13 s14 wc=>s12=.slice A3 m c3∧s13=.int .i64 (m:Int)∧s14=.int .i64 0∧wc=w3)
   case first=>
    go_region_law (first | (refine at_dst 9 (by rfl) ?_;refine step_append_eq HAP1.out (by rfl) _ _ (by rfl) (by rfl) (by rfl) ?_) | (refine at_dst 12 (by rfl) ?_;refine step_append_eq HAP2.out (by rfl) _ _ (by rfl) (by rfl) (by rfl) ?_))
    all_goals (go_wp2_with fail;go_meet;exact⟨rfl,rfl,rfl,rfl⟩)
   case rest=>
    obtain⟨rfl,rfl,rfl,hwc⟩:=hcut
    obtain rfl:w3=wc:=hwc.symm
    clear HAP1 HAP2 b3 b5 q3 q5 d3 d5
    go_wp2_with fail
    go_loopg [3,14] m (fun kk s3 s14 wr=>∃j:Nat,j+kk=m∧s14=.int .i64 (j:Int)∧s3=.int .i64 ((1:Int)+(cnts (L.take j):Int))∧New w3 wr)
    case atStart=>exact⟨0,by omega,rfl,by simp [cnts],Keep.refl _ _⟩
    case round=>
     obtain⟨j,hj,rfl,rfl,kr⟩:=hrel
     rcases gk with _ | kk
     ·obtain rfl:m=j:=by omega
      go_wp2
      go_ret
      refine⟨?_,K3.out.trans kr⟩
      rw [MM.out,List.take_length]
      simp
     ·have hjn:j<m:=by omega
      have tj:decide (j<m)=true:=by simpa using hjn
      have hj1:j<L.length:=by rw [←MM.out];exact hjn
      obtain⟨d2,i2,hAe,-,-,-,hat⟩:=(HM.out.keep kr).at2 (fun h=>by rw [h]at hj1;simp at hj1)
      cases hAe
      obtain⟨e0,e1,e2,e3,e4,e5,hva,g0,g1,g2,g3,g4,g5⟩:=hat j hj1
      obtain⟨ek,en,et,A5,l5,c5,eo,A6,l6,c6,he⟩:=hva.parts
      simp only [Value.agg.injEq,Array.mk.injEq,List.cons.injEq,and_true]at he
      obtain⟨rfl,rfl,rfl,rfl,rfl,rfl⟩:=he
      have hcl:=cnts_get L j hj1
      have hts:=cnts_take L j hj1
      have htl:cnts (L.take (j+1))≤cnts L:=by
       have:=cnts_append (L.take (j+1)) (L.drop (j+1))
       rw [List.take_append_drop]at this
       omega
      obtain⟨cj,hcj⟩:∃cj,cj=cnt L[j]:=⟨_,rfl⟩
      obtain⟨sj,hsj⟩:∃sj,sj=cnts (L.take j):=⟨_,rfl⟩
      have kA:=(Keep.refl (fun _=>True) wr).alloc (.cells #[.int .i64 ek,.int .u64 en,.string et,.slice A5 l5 c5,.int .i64 eo,.slice A6 l6 c6] 78)
      have hcall:=IH.out L[j] (by omega) _ _ (hva.keep kA)
      rw [←hcj]at hcall hts hcl
      rw [←hsj]at hts ⊢
      have hbd:1+sj+cj≤1000001:=by omega
      have HC:=Lib.hid hcall
      have HTS:=Lib.hid hts
      clear hva hat hcall hcj hsj hts htl hcl
      have wr1:IntKind.i64.wrap ((1:Int)+(sj:Int)+(cj:Int))=(1:Int)+(sj:Int)+(cj:Int):=IntWalk.i64_in _ ⟨by omega,by omega⟩
      go_wp2_with fail
      refine HC.out.mono ?_
      rintro e w4 ⟨rfl,k4⟩
      go_wp2
      go_roundg kk
      case measure=>omega
      case rel=>
       refine⟨j+1,by omega,congrArg _ (by omega),?_,(kr.trans kA).trans k4⟩
       rw [HTS.out]
       congr 1
       omega
end Go.Proofs.YtfoegolfadhmjaaGreatDoor
