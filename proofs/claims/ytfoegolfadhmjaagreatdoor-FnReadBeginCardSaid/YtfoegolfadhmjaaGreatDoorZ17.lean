/- spec.SameLoosely. -/
import Derived.Test.YtfoegolfadhmjaaGreatDoorZ06
set_option linter.all false
set_option maxRecDepth 100000
set_option maxHeartbeats 16000000
namespace Go.Proofs.YtfoegolfadhmjaaGreatDoor
open Go.RowKit Go.WideShapes Go.Sort
theorem len_cnts:∀(l:List V),l.length≤cnts l
 | []=>by simp
 | a::l=>by
   have:=len_cnts l
   cases a
   simp only [cnts,cnt,List.length_cons]
   omega
theorem sameLs_step{a b:List V}(j:Nat)(ha:j<a.length)(hb:j<b.length):sameLs (a.drop j) (b.drop j)=(sameL a[j] b[j]&&sameLs (a.drop (j+1)) (b.drop (j+1))):=by
 rw [List.drop_eq_getElem_cons ha,List.drop_eq_getElem_cons hb]
 simp [sameLs]
theorem sameAt_step{f:V→Bool}{k:V}{l:List V}(j:Nat)(h1:j+1<l.length):sameAt f k (l.drop j)=((sameV k l[j]&&f l[j+1]) || sameAt f k (l.drop (j+2))):=by
 rw [List.drop_eq_getElem_cons (by omega:j<l.length),List.drop_eq_getElem_cons h1]
 rfl
theorem sameAt_end{f:V→Bool}{k:V}{l:List V}(j:Nat)(h1:¬j+1<l.length):sameAt f k (l.drop j)=false:=by
 have:(l.drop j).length≤1:=by simp;omega
 match h:l.drop j,this with
 | [],_=>rfl
 | [x],_=>rfl
theorem sameM_step{l bs:List V}(i:Nat)(h1:i+1<l.length):sameM (l.drop i) bs=(sameAt (sameL l[i+1]) l[i] bs&&sameM (l.drop (i+2)) bs):=by
 rw [List.drop_eq_getElem_cons (by omega:i<l.length),List.drop_eq_getElem_cons h1]
 simp [sameM]
theorem sameM_end{l bs:List V}(i:Nat)(h1:¬i+1<l.length):sameM (l.drop i) bs=true:=by
 have:(l.drop i).length≤1:=by simp;omega
 match h:l.drop i,this with
 | [],_=>simp [sameM]
 | [x],_=>simp [sameM]
theorem NoD.inv{v:V}(h:NoD [v]):∃k n t ks o,v=.mk k n t ks o []∧NoD ks:=by
 cases h with
 | cons hk _=>exact⟨_,_,_,_,_,rfl,hk⟩
theorem NoD.get{l:List V}(h:NoD l):∀(j:Nat) (hj:j<l.length),NoD [l[j]]:=by
 induction h with
 | nil=>intro j hj;simp at hj
 | cons hk hs _ ih=>
   intro j hj
   cases j with
   | zero=>exact .cons hk .nil
   | succ j=>exact ih j (by simpa using hj)
theorem loose_map(N:Nat)(IH:Hid (∀(a b:V),cnt a≤N→NoD [a]→NoD [b]→∀(w:World) (x y:Value),VM w a x→VM w b y→Calls Tryz.prog 137 #[x,y] w fun e w'=>e=.returned (.bool (sameL a b))∧New w w'))
 (n n':Nat) (t t':List UInt8) (ks ks':List V) (o o':Int) (m:Nat) (A1 A2 A3 A4:Option Addr) (c1 c2 c3 c4:Nat) (w:World) (hn:n<18446744073709551616) (hn':n'<18446744073709551616) (HK:Hid (LM w ks (.slice A1 m c1))) (HK':Hid (LM w ks' (.slice A3 m c3))) (NA:Hid (NoD ks)) (NB:Hid (NoD ks')) (hNk:cnts ks≤N) (hmb:m≤1099511627776)
 (M1:Hid (m=ks.length)) (M3:Hid (m=ks'.length)) (hfin2:sameL (.mk 22 n t ks o []) (.mk 22 n' t' ks' o' [])=sameM ks ks'):
 Calls Tryz.prog 137 #[.agg #[.int .i64 22,.int .u64 (n:Int),.string ⟨t.toArray⟩,.slice A1 m c1,.int .i64 o,.slice A2 0 c2],.agg #[.int .i64 22,.int .u64 (n':Int),.string ⟨t'.toArray⟩,.slice A3 m c3,.int .i64 o',.slice A4 0 c4]] w fun e w'=>e=.returned (.bool (sameL (.mk 22 n t ks o []) (.mk 22 n' t' ks' o' [])))∧New w w':=by
 have HF:=Lib.hid hfin2
 clear hfin2
 go_enter Tryz.func137,Tryz.ntmps137
 go_wp2_with fail
 obtain⟨w1,hw1⟩:∃w1,w1=(w.alloc (.cells #[.int .i64 22,.int .u64 (n:Int),.string ⟨t.toArray⟩,.slice A1 m c1,.int .i64 o,.slice A2 0 c2] 78)).alloc (.cells #[.int .i64 22,.int .u64 (n':Int),.string ⟨t'.toArray⟩,.slice A3 m c3,.int .i64 o',.slice A4 0 c4] 78):=⟨_,rfl⟩
 have kw1:New w w1:=by rw [hw1];exact((Keep.refl _ _).alloc _).alloc _
 have B1:w1.heap[w.heap.size]? =some (.cells #[.int .i64 22,.int .u64 (n:Int),.string ⟨t.toArray⟩,.slice A1 m c1,.int .i64 o,.slice A2 0 c2] 78 (0,0)):=by rw [hw1];exact blk_alloc (blk_new w _) _
 have B2:w1.heap[w.heap.size+1]? =some (.cells #[.int .i64 22,.int .u64 (n':Int),.string ⟨t'.toArray⟩,.slice A3 m c3,.int .i64 o',.slice A4 0 c4] 78 (0,0)):=by rw [hw1];simpa using blk_new (w.alloc (.cells #[.int .i64 22,.int .u64 (n:Int),.string ⟨t.toArray⟩,.slice A1 m c1,.int .i64 o,.slice A2 0 c2] 78)) (.cells #[.int .i64 22,.int .u64 (n':Int),.string ⟨t'.toArray⟩,.slice A3 m c3,.int .i64 o',.slice A4 0 c4] 78)
 rw [←hw1]
 clear hw1
 have x0:=(blk_cell B1 0).trans rfl
 have x3:=(blk_cell B1 3).trans rfl
 have x5:=(blk_cell B1 5).trans rfl
 have y0:=(blk_cell B2 0).trans rfl
 have y3:=(blk_cell B2 3).trans rfl
 have y5:=(blk_cell B2 5).trans rfl
 have x0':=fun q os=>cell_regrown x0 q os
 have x3':=fun q os=>cell_regrown x3 q os
 have x5':=fun q os=>cell_regrown x5 q os
 have y0':=fun q os=>cell_regrown y0 q os
 have y3':=fun q os=>cell_regrown y3 q os
 have y5':=fun q os=>cell_regrown y5 q os
 refine wp_region_quiet_below (by kernel_rfl) (by kernel_rfl) ?_
 repeat (go_big_quiet_step (fail))
 refine wpQuiet_nil ?_
 intro _ hw'
 obtain⟨⟨dq,osq⟩,hw''⟩:=hw'
 have kq:=new_regrown w1 dq osq
 rw [←hw'']at kq
 have kw2:=kw1.trans kq
 have C1:=kq.blk B1 trivial
 have C2:=kq.blk B2 trivial
 clear x0 x3 x5 y0 y3 y5 x0' x3' x5' y0' y3' y5' B1 B2 hw'' kw1 kq
 rename_i w2
 have x0:=(blk_cell C1 0).trans rfl
 have x3:=(blk_cell C1 3).trans rfl
 go_wp2_with fail
 go_loopg [6] m (fun kk s6 wr=>∃i:Nat,i+kk=m∧s6=.int .i64 (i:Int)∧New w wr∧wr.heap[w.heap.size]? =some (.cells #[.int .i64 22,.int .u64 (n:Int),.string ⟨t.toArray⟩,.slice A1 m c1,.int .i64 o,.slice A2 0 c2] 78 (0,0))∧wr.heap[w.heap.size+1]? =some (.cells #[.int .i64 22,.int .u64 (n':Int),.string ⟨t'.toArray⟩,.slice A3 m c3,.int .i64 o',.slice A4 0 c4] 78 (0,0))∧sameM ks ks'=sameM (ks.drop i) ks')
 case atStart=>exact⟨0,by omega,rfl,kw2,C1,C2,rfl⟩
 case round=>
  obtain⟨i,hi,rfl,kr,hb1,hb2,hsm⟩:=hrel
  have SM:=Lib.hid hsm
  clear hsm x0 x3 C1 C2
  have d3:=(blk_cell hb1 3).trans rfl
  by_cases hb:i+1<m
  case neg=>
   have ti:decide ((i:Int)+1<(m:Int))=false:=by simp;omega
   have hv:sameM ks ks'=true:=by rw [SM.out];exact sameM_end i (by rw [←M1.out];exact hb)
   have HV:=Lib.hid hv
   clear hv
   go_wp2
   go_ret
   exact⟨by rw [HF.out,HV.out];rfl,kr⟩
  have ti:decide ((i:Int)+1<(m:Int))=true:=by simp;omega
  have hi1:i+1<ks.length:=by rw [←M1.out];exact hb
  have hstep:=sameM_step (bs:=ks') i hi1
  have HST:=Lib.hid hstep
  clear hstep
  obtain⟨wo,hwo⟩:∃wo:World,wo=wr:=⟨_,rfl⟩
  go_wp2_with fail
  go_loopg [7,8] m (fun kk s7 s8 wr=>∃(j:Nat) (fb:Bool),j+kk=m∧s7=.bool fb∧s8=.int .i64 (j:Int)∧New w wr∧wr.heap[w.heap.size]? =some (.cells #[.int .i64 22,.int .u64 (n:Int),.string ⟨t.toArray⟩,.slice A1 m c1,.int .i64 o,.slice A2 0 c2] 78 (0,0))∧wr.heap[w.heap.size+1]? =some (.cells #[.int .i64 22,.int .u64 (n':Int),.string ⟨t'.toArray⟩,.slice A3 m c3,.int .i64 o',.slice A4 0 c4] 78 (0,0))∧sameAt (sameL ks[i+1]) ks[i] ks'=(fb || sameAt (sameL ks[i+1]) ks[i] (ks'.drop j)))
  case atStart=>exact⟨0,false,by omega,rfl,rfl,kr,hb1,hb2,by rw [Bool.false_or];rfl⟩
  case round=>
   clear hb1 hb2 kr d3
   obtain⟨j,fb,hj,rfl,rfl,kr,hb1,hb2,hsa⟩:=hrel
   have SA:=Lib.hid hsa
   clear hsa
   have d3:=(blk_cell hb1 3).trans rfl
   have e3:=(blk_cell hb2 3).trans rfl
   by_cases hc:j+1<m
   case neg=>
    have tj:decide ((j:Int)+1<(m:Int))=false:=by simp;omega
    have hend:sameAt (sameL ks[i+1]) ks[i] ks'=fb:=by
     rw [SA.out,sameAt_end j (by rw [←M3.out];exact hc),Bool.or_false]
    have HE:=Lib.hid hend
    clear hend
    cases fb
    ·go_wp2
     go_ret
     refine⟨?_,kr⟩
     rw [HF.out,SM.out,HST.out,HE.out]
     rfl
    ·go_wp2
     go_roundg (m-(i+2))
     case measure=>omega
     case rel=>
      refine⟨i+2,by omega,congrArg _ (by omega),kr,hb1,hb2,?_⟩
      rw [SM.out,HST.out,HE.out,Bool.true_and]
   have tj:decide ((j:Int)+1<(m:Int))=true:=by simp;omega
   have hj1:j+1<ks'.length:=by rw [←M3.out];exact hc
   have hj0:j<ks'.length:=by omega
   have hi0:i<ks.length:=by omega
   obtain⟨d,p,rfl,-,-,-,hat⟩:=(HK.out.keep kr).at2 (fun h=>by rw [h]at hi0;simp at hi0)
   obtain⟨d',p',rfl,-,-,-,hat'⟩:=(HK'.out.keep kr).at2 (fun h=>by rw [h]at hj0;simp at hj0)
   obtain⟨a0,a1,a2,a3,a4,a5,hva,g0,g1,g2,g3,g4,g5⟩:=hat i hi0
   obtain⟨b0,b1,b2,b3,b4,b5,hvb,f0,f1,f2,f3,f4,f5⟩:=hat' j hj0
   obtain⟨x0,x1,x2,x3,x4,x5,hvx,q0,q1,q2,q3,q4,q5⟩:=hat (i+1) hi1
   obtain⟨y0,y1,y2,y3,y4,y5,hvy,r0,r1,r2,r3,r4,r5⟩:=hat' (j+1) hj1
   obtain⟨sv,hsv⟩:∃sv,sv=sameV ks[i] ks'[j]:=⟨_,rfl⟩
   obtain⟨lv,hlv⟩:∃lv,lv=sameL ks[i+1] ks'[j+1]:=⟨_,rfl⟩
   have hst:=sameAt_step (f:=sameL ks[i+1]) (k:=ks[i]) (l:=ks') j hj1
   rw [←hsv,←hlv]at hst
   have HSA:=Lib.hid hst
   have cS:=fun q os=>regrown_new (v:=.bool sv) ((same_val N ks[i] ks'[j] (Nat.le_trans (cnts_get ks i hi0) hNk) _ _ _ (hva.keep (new_regrown wr q os)) (hvb.keep (new_regrown wr q os))).mono fun e w' h=>⟨by rw [hsv];exact h.1,h.2⟩)
   have cL:=fun q os=>regrown_new (v:=.bool lv) ((IH.out ks[i+1] ks'[j+1] (Nat.le_trans (cnts_get ks (i+1) hi1) hNk) (NA.out.get (i+1) hi1) (NB.out.get (j+1) hj1) _ _ _ (hvx.keep (new_regrown wr q os)) (hvy.keep (new_regrown wr q os))).mono fun e w' h=>⟨by rw [hlv];exact h.1,h.2⟩)
   clear hva hvb hvx hvy hat hat' hsv hlv hst
   have d3':=fun q os=>cell_regrown d3 q os
   have e3':=fun q os=>cell_regrown e3 q os
   have g0':=fun q os=>cell_regrown g0 q os
   have g1':=fun q os=>cell_regrown g1 q os
   have g2':=fun q os=>cell_regrown g2 q os
   have g3':=fun q os=>cell_regrown g3 q os
   have g4':=fun q os=>cell_regrown g4 q os
   have g5':=fun q os=>cell_regrown g5 q os
   have f0':=fun q os=>cell_regrown f0 q os
   have f1':=fun q os=>cell_regrown f1 q os
   have f2':=fun q os=>cell_regrown f2 q os
   have f3':=fun q os=>cell_regrown f3 q os
   have f4':=fun q os=>cell_regrown f4 q os
   have f5':=fun q os=>cell_regrown f5 q os
   have q0':=fun q os=>cell_regrown q0 q os
   have q1':=fun q os=>cell_regrown q1 q os
   have q2':=fun q os=>cell_regrown q2 q os
   have q3':=fun q os=>cell_regrown q3 q os
   have q4':=fun q os=>cell_regrown q4 q os
   have q5':=fun q os=>cell_regrown q5 q os
   have r0':=fun q os=>cell_regrown r0 q os
   have r1':=fun q os=>cell_regrown r1 q os
   have r2':=fun q os=>cell_regrown r2 q os
   have r3':=fun q os=>cell_regrown r3 q os
   have r4':=fun q os=>cell_regrown r4 q os
   have r5':=fun q os=>cell_regrown r5 q os
   cases fb
   ·cases sv
    ·go_wp2_with fail
     refine wp_region_quiet_below (by kernel_rfl) (by kernel_rfl) ?_
     repeat (go_big_quiet_step (first | exact cS _ _ | exact cL _ _))
     refine wpQuiet_nil ?_
     intro _ hw'
     obtain⟨⟨dq,osq⟩,hw''⟩:=hw'
     subst hw''
     go_wp2
     have kr4:=new_regrown wr dq osq
     go_roundg (m-(j+2))
     case measure=>omega
     case rel=>
      refine⟨j+2,false,by omega,rfl,congrArg _ (by omega),kr.trans kr4,kr4.blk hb1 trivial,kr4.blk hb2 trivial,?_⟩
      rw [SA.out,HSA.out]
      simp
    ·go_wp2_with fail
     refine wp_region_quiet_below (by kernel_rfl) (by kernel_rfl) ?_
     repeat (go_big_quiet_step (first | exact cS _ _ | exact cL _ _))
     refine wpQuiet_nil ?_
     intro _ hw'
     obtain⟨⟨dq,osq⟩,hw''⟩:=hw'
     subst hw''
     go_wp2
     have kr4:=new_regrown wr dq osq
     go_roundg (m-(j+2))
     case measure=>omega
     case rel=>
      refine⟨j+2,lv,by omega,rfl,congrArg _ (by omega),kr.trans kr4,kr4.blk hb1 trivial,kr4.blk hb2 trivial,?_⟩
      rw [SA.out,HSA.out]
      simp
   ·go_wp2_with fail
    refine wp_region_quiet_below (by kernel_rfl) (by kernel_rfl) ?_
    repeat (go_big_quiet_step (first | exact cS _ _ | exact cL _ _))
    refine wpQuiet_nil ?_
    intro _ hw'
    obtain⟨⟨dq,osq⟩,hw''⟩:=hw'
    subst hw''
    go_wp2
    have kr4:=new_regrown wr dq osq
    go_roundg (m-(j+2))
    case measure=>omega
    case rel=>
     refine⟨j+2,true,by omega,rfl,congrArg _ (by omega),kr.trans kr4,kr4.blk hb1 trivial,kr4.blk hb2 trivial,?_⟩
     rw [SA.out,HSA.out]
     simp
end Go.Proofs.YtfoegolfadhmjaaGreatDoor
