/- laws.mapAsked, laws.askedFault, spec.Composite.Fits. -/
import Derived.Test.YtfoegolfadhmjaaGreatDoorZ26
import Derived.Test.YtfoegolfadhmjaaGreatDoorZ35
set_option linter.all false
set_option maxRecDepth 100000
set_option maxHeartbeats 16000000
namespace Go.Proofs.YtfoegolfadhmjaaGreatDoor
open Go.RowKit Go.WideShapes Go.Sort
theorem FitL.mem1{l:List V}(h:FitL l)(j:Nat)(hj:j<l.length):FitC l[j].kind l[j].num l[j].text l[j].kids l[j].desc:=h.mem _ (List.getElem_mem hj)
theorem SayL.desc{v:V}(h:SayL [v]):v.desc=[]:=by cases h;rfl
theorem SayL.get{l:List V}(h:SayL l):∀j (hj:j<l.length),l[j].desc=[]:=by
 induction h with
 | nil=>intro j hj;simp at hj
 | cons h1 h2 h3 h4 hs _ ih=>
   intro j hj
   cases j with
   | zero=>rfl
   | succ j=>exact ih j (by simpa using hj)
theorem say_map(N:Nat)(IH:∀u:V,cnt u≤N→FitL [u]→∀(w:World) (x:Value),VM w u x→Calls Tryz.prog 88 #[x] w (Yes (SayL [u]) w))(n:Nat)(t:List UInt8)(ks:List V)(hN:cnts ks≤N)(hF:FitL ks)(hmx:ks.length≤1000)(o:Int)(w:World)(x:Value)(hx:VM w (.mk 22 n t ks o []) x):Calls Tryz.prog 88 #[x] w (Yes (SayL ks∧KeysD ks ks.length) w):=by
 obtain⟨sk,sd,rfl,hn,hks,hds⟩:=hx.inv
 obtain⟨A1,c1,rfl,hl1,hl1'⟩:=hks.shape
 obtain⟨A2,c2,rfl,hl2,hl2'⟩:=hds.shape
 have hml:ks.length≤maxLen:=by omega
 unfold maxLen at hml
 clear hl1 hl1' hl2 hl2' hx
 obtain⟨a,ha⟩:∃a,a=ks.length:=⟨_,rfl⟩
 rw [←ha]at hml hks ⊢
 simp only [List.length_nil]
 have hml:=hmx
 rw [←ha]at hml
 have M:=Lib.hid ha
 have HK:=Lib.hid hks
 have HI:=Lib.hid IH
 have HF:=Lib.hid hF
 have kA:=(Keep.refl (fun _=>True) w).alloc (.cells #[.int .i64 22,.int .u64 (n:Int),.string ⟨t.toArray⟩,.slice A1 a c1,.int .i64 o,.slice A2 0 c2] 78)
 have HBX:=Lib.hid (blk_new w (.cells #[.int .i64 22,.int .u64 (n:Int),.string ⟨t.toArray⟩,.slice A1 a c1,.int .i64 o,.slice A2 0 c2] 78))
 clear ha hks hds IH hF hmx
 go_enter Tryz.func88,Tryz.ntmps88
 go_wp2_with fail
 go_loopg [62] a (fun kk s62 wr=>∃j:Nat,j+kk=a∧s62=.int .i64 (j:Int)∧New w wr∧wr.heap[w.heap.size]? =some (.cells #[.int .i64 22,.int .u64 (n:Int),.string ⟨t.toArray⟩,.slice A1 a c1,.int .i64 o,.slice A2 0 c2] 78 (0,0))∧SayL (ks.take j)∧KeysD ks j)
 case atStart=>exact⟨0,by omega,rfl,kA,HBX.out,by rw [List.take_zero];exact .nil,fun i h h0=>absurd h0 (by omega),fun i i' h h' h0 h1=>absurd h1 (by omega)⟩
 case round=>
  obtain⟨j,hj,rfl,kr,hb,hall,hkd⟩:=hrel
  have HALL:=Lib.hid hall
  have HKD:=Lib.hid hkd
  have HBR:=Lib.hid hb
  clear hall hb hkd
  rcases gk with _ | kk
  ·obtain rfl:a=j:=by omega
   go_wp2
   go_ret
   exact⟨_,rfl,kr,fun _=>⟨by have:=HALL.out;rwa [M.out,List.take_length]at this,by have:=HKD.out;rwa [M.out]at this⟩⟩
  ·have hjn:j<a:=by omega
   have tj:decide (j<a)=true:=by simpa using hjn
   have hj1:j<ks.length:=by rw [←M.out];exact hjn
   have hq:((j:Int)).tmod 2=((j % 2:Nat):Int):=by rw [Int.tmod_eq_emod_of_nonneg (by omega)];omega
   obtain⟨d2,i2,hAe,-,-,-,hat⟩:=(HK.out.keep kr).at2 (fun h=>by rw [h]at hj1;simp at hj1)
   cases hAe
   obtain⟨e0,e1,e2,e3,e4,e5,hve,g0,g1,g2,g3,g4,g5⟩:=hat j hj1
   obtain⟨A9,c9,o9,A0,c10,heq,-,-⟩:=hve.parts'
   simp only [Value.agg.injEq,Array.mk.injEq,List.cons.injEq,and_true]at heq
   obtain⟨rfl,rfl,rfl,rfl,rfl,rfl⟩:=heq
   have hfu:=HF.out.get j hj1
   have hfm:=HF.out.mem1 j hj1
   have hke:=HKD.out.even hj1
   obtain⟨u,hu⟩:∃u,u=ks[j]:=⟨_,rfl⟩
   have htk:ks.take (j+1)=ks.take j++[u]:=by rw [←List.take_append_getElem hj1,hu]
   have hNu:cnt u≤N:=by rw [hu];exact Nat.le_trans (cnts_get ks j hj1) hN
   rw [←hu]at hve g0 g1 g2 g3 g5 hfu hfm hke
   have kE:=(Keep.refl (fun _=>True) wr).alloc (.cells #[.int .i64 u.kind,.int .u64 (u.num:Int),.string ⟨u.text.toArray⟩,.slice A9 u.kids.length c9,.int .i64 o9,.slice A0 u.desc.length c10] 78)
   have HC:=Lib.hid (HI.out u hNu hfu _ _ (hve.keep kE))
   have HTK:=Lib.hid htk
   have HVE:=Lib.hid hve
   have HFM:=Lib.hid hfm
   have HKE:=Lib.hid hke
   clear hve hat hu htk hfu hfm hke
   go_wp2_with fail
   refine HC.out.mono ?_
   rintro e w2 ⟨bb,rfl,k2,hbb⟩
   have HBB:=Lib.hid hbb
   have K2:=Lib.hid ((kr.trans kE).trans k2)
   have hb2:=k2.blk (kE.blk HBR.out trivial) trivial
   have hk2:=k2.blk (blk_new wr (.cells #[.int .i64 u.kind,.int .u64 (u.num:Int),.string ⟨u.text.toArray⟩,.slice A9 u.kids.length c9,.int .i64 o9,.slice A0 u.desc.length c10] 78)) trivial
   have HB2:=Lib.hid hb2
   have HK2:=Lib.hid hk2
   have HVE2:=Lib.hid (HVE.out.keep (kE.trans k2))
   have z0:=(blk_cell hb2 0).trans rfl
   have y0:=(blk_cell hk2 0).trans rfl
   clear hbb hb2 hk2
   cases bb
   ·go_wp2
    go_ret
    exact Yes.no K2.out
   ·have HSU:=Lib.hid (HBB.out (by first | rfl | trivial))
    by_cases hpar:j % 2=1
    ·rw [hpar]at hq
     have HPAR:=Lib.hid hpar
     clear hpar
     go_wp2
     go_roundg kk
     case measure=>omega
     case rel=>exact⟨j+1,by omega,congrArg _ (by omega),K2.out,HB2.out,by rw [HTK.out];exact HALL.out.append HSU.out,HKD.out.odd HPAR.out⟩
    ·have hp0:j % 2=0:=by omega
     rw [hp0]at hq
     have HPAR:=Lib.hid hp0
     have hkk:=keyKind_is u.kind w2
     have HKK:=Lib.hid hkk
     clear hpar hp0 hkk
     go_wp2_with fail
     refine HKK.out.mono ?_
     rintro e w3 ⟨b3,rfl,k3,hb3⟩
     have HB3:=Lib.hid hb3
     have K3:=Lib.hid (K2.out.trans k3)
     have HBX3:=Lib.hid (k3.blk HB2.out trivial)
     have HKX3:=Lib.hid (k3.blk HK2.out trivial)
     have HVE3:=Lib.hid (HVE2.out.keep k3)
     clear hb3 k3 z0 y0 k2 kE
     cases b3
     ·go_wp2
      go_ret
      exact Yes.no K3.out
     ·have hkey:KeyK u.kind:=HB3.out (by first | rfl | trivial)
      have hlt:u.kind<21:=by unfold KeyK at hkey;omega
      have hku:u.kids=[]:=HFM.out.noKids hlt
      have hdu:u.desc=[]:=HSU.out.desc
      have HKEY:=Lib.hid hkey
      obtain⟨uk,un,ut,uks,uo,uds⟩:=u
      simp only [V.kids,V.desc]at hku hdu
      subst hku hdu
      simp only [V.kind,V.num,V.text,V.kids,V.desc,List.length_nil]at HBX3 HKX3 HVE3 HKE HKEY g0 g1 g2 g3 g5 ⊢
      clear hkey hlt
      obtain⟨wo,hwo⟩:∃wo:World,wo=wr:=⟨_,rfl⟩
      subst hwo
      go_wp2_with fail
      go_loopg [5] j (fun r s5 wq=>∃q:Nat,2*q+r=j∧s5=.int .i64 (2*(q:Int))∧New w wq∧wq.heap[w.heap.size]? =some (.cells #[.int .i64 22,.int .u64 (n:Int),.string ⟨t.toArray⟩,.slice (some ⟨d2,i2,none⟩) a c1,.int .i64 o,.slice A2 0 c2] 78 (0,0))∧wq.heap[wo.heap.size]? =some (.cells #[.int .i64 uk,.int .u64 (un:Int),.string ⟨ut.toArray⟩,.slice A9 0 c9,.int .i64 o9,.slice A0 0 c10] 78 (0,0))∧∀i (h:i<ks.length),i<2*q→i % 2=0→rk ks[i]≠rk (.mk uk un ut [] uo []))
      case atStart=>exact⟨0,by omega,rfl,K3.out,HBX3.out,HKX3.out,fun i h h0=>absurd h0 (by omega)⟩
      case round=>
       obtain⟨q,hq2,rfl,kq,hbq,hkq,hd⟩:=hrel
       have HDD:=Lib.hid hd
       have HBQ:=Lib.hid hbq
       have HKQ:=Lib.hid hkq
       clear hd hbq hkq
       by_cases hlt:2*q<j
       ·have tq:decide (2*(q:Int)<(j:Int))=true:=by simp;omega
        have hq1:2*q<ks.length:=by omega
        have e2:(2*(q:Int)).toNat=2*q:=by omega
        have tqa:2*(q:Int)<(a:Int):=by omega
        obtain⟨d3,i3,hAe,-,-,-,hat⟩:=(HK.out.keep kq).at2 (fun h=>by rw [h]at hj1;simp at hj1)
        cases hAe
        obtain⟨f0,f1,f2,f3,f4,f5,hvf,l0,l1,l2,l3,l4,l5⟩:=hat (2*q) hq1
        have hvm:=HF.out.mem1 (2*q) hq1
        have hvk:=HKD.out.1 (2*q) hq1 hlt (by omega)
        have hvd:(ks[2*q]'hq1).desc=[]:=by
         have:=HALL.out.get (2*q) (by rw [List.length_take];omega)
         rwa [List.getElem_take]at this
        have hdn:∀hne:rk ks[2*q]≠rk (.mk uk un ut [] uo []),∀i (h:i<ks.length),i<2*(q+1)→i % 2=0→rk ks[i]≠rk (.mk uk un ut [] uo []):=fun hne i h hi h2=>by
         rcases Nat.lt_or_ge i (2*q)with h1 | h1
         ·exact HDD.out i h h1 h2
         ·obtain rfl:i=2*q:=by omega
          exact hne
        obtain⟨v,hv⟩:∃v,v=ks[2*q]'hq1:=⟨_,rfl⟩
        rw [←hv]at hvf hvm hvk hvd hdn
        have hvkids:v.kids=[]:=hvm.noKids (by unfold KeyK at hvk;omega)
        obtain⟨vk,vn,vt,vks,vo,vds⟩:=v
        simp only [V.kids,V.desc]at hvkids hvd
        subst hvkids hvd
        have HDN:=Lib.hid hdn
        have hVF:=hvf
        obtain⟨B9,p9,p8,B0,p10,heq,-,hvo⟩:=hvf.parts'
        simp only [Value.agg.injEq,Array.mk.injEq,List.cons.injEq,and_true]at heq
        obtain⟨rfl,rfl,rfl,rfl,rfl,rfl⟩:=heq
        simp only [V.kind,V.num,V.text,V.kids,V.desc,V.of,List.length_nil]at l0 l1 l2 l3 l5 hVF hvo
        subst hvo
        have hro:o9=uo:=by
         obtain⟨sk',sd',he,-⟩:=HVE3.out.inv
         simp only [Value.agg.injEq,Array.mk.injEq,List.cons.injEq,Value.int.injEq,and_true,true_and]at he
         exact he.2.1
        subst hro
        obtain⟨bb,hbb⟩:∃bb,bb=sameV (.mk (rkK vk) vn vt [] p8 []) (.mk (rkK uk) un ut [] o9 []):=⟨_,rfl⟩
        have HVF:=Lib.hid hVF
        have HBB2:=Lib.hid hbb
        have z3:=(blk_cell HBQ.out 3).trans rfl
        have z3':=fun x os=>cell_regrown z3 x os
        have y0:=(blk_cell HKQ.out 0).trans rfl
        have y1:=(blk_cell HKQ.out 1).trans rfl
        have y2:=(blk_cell HKQ.out 2).trans rfl
        have y3:=(blk_cell HKQ.out 3).trans rfl
        have y4:=(blk_cell HKQ.out 4).trans rfl
        have y5:=(blk_cell HKQ.out 5).trans rfl
        have y0':=fun x os=>cell_regrown y0 x os
        have y1':=fun x os=>cell_regrown y1 x os
        have y2':=fun x os=>cell_regrown y2 x os
        have y3':=fun x os=>cell_regrown y3 x os
        have y4':=fun x os=>cell_regrown y4 x os
        have y5':=fun x os=>cell_regrown y5 x os
        have l0':=fun x os=>cell_regrown l0 x os
        have l1':=fun x os=>cell_regrown l1 x os
        have l2':=fun x os=>cell_regrown l2 x os
        have l3':=fun x os=>cell_regrown l3 x os
        have l4':=fun x os=>cell_regrown l4 x os
        have l5':=fun x os=>cell_regrown l5 x os
        have c1Q:=fun x os=>regrown_new (asRead_leaf vk vn vt p8 B9 B0 p9 p10 (grow (redrawn wr x) os))
        have c2Q:=fun x os=>regrown_new (asRead_leaf uk un ut o9 A9 A0 c9 c10 (grow (redrawn wr x) os))
        have c3Q:=fun x os=>regrown_new (v:=.bool bb) ((same_val _ _ _ (Nat.le_refl _) (grow (redrawn wr x) os) _ _ (HVF.out.asRead (grow (redrawn wr x) os)) (HVE3.out.asRead (grow (redrawn wr x) os))).mono fun e w' h=>⟨by rw [HBB2.out];exact h.1,h.2⟩)
        have hlt2:2*q+1<j:=by have:=HPAR.out;omega
        clear hVF hbb hat hvm hvk hdn hv hlt
        go_wp2_with fail
        refine wp_region_quiet_below (by kernel_rfl) (by kernel_rfl) ?_
        repeat (go_big_quiet_step (first | (with_reducible exact c1Q _ _) | (with_reducible exact c2Q _ _) | (with_reducible exact c3Q _ _)))
        refine wpQuiet_nil ?_
        intro _ hw'
        obtain⟨⟨dq,osq⟩,hw''⟩:=hw'
        subst hw''
        have kx:=new_regrown wr dq osq
        cases bb
        ·have hw2:IntKind.i64.wrap (2*(q:Int)+2)=2*(q:Int)+2:=IntWalk.i64_in _ ⟨by omega,by omega⟩
         go_wp2
         obtain⟨r,rfl⟩:∃r,gk=r+2:=⟨gk-2,by omega⟩
         go_roundg r
         case measure=>omega
         case rel=>exact⟨q+1,by omega,congrArg _ (by omega),kq.trans kx,kx.blk HBQ.out trivial,kx.blk HKQ.out trivial,HDN.out (sameV_rk HBB2.out.symm)⟩
        ·go_wp2
         go_ret
         exact Yes.no (kq.trans kx)
       ·have tq:decide (2*(q:Int)<(j:Int))=false:=by simp;omega
        have hqj:j=2*q:=by omega
        have HQJ:=Lib.hid (HKE.out HKEY.out (by rw [hqj];exact HDD.out))
        clear hlt hqj
        go_wp2
        go_roundg kk
        case measure=>omega
        case rel=>exact⟨j+1,by omega,congrArg _ (by omega),kq,HBQ.out,by rw [HTK.out];exact HALL.out.append HSU.out,HQJ.out⟩
theorem Yes.mono{p q:Prop}{f:FuncId}{args:Array Value}{w:World}(h:Calls Tryz.prog f args w (Yes p w))(hp:p→q):Calls Tryz.prog f args w (Yes q w):=
 h.mono fun _ _ ⟨b,he,hk,hb⟩=>⟨b,he,hk,fun h=>hp (hb h)⟩
theorem say_val(N:Nat):∀(v:V),cnt v≤N→FitL [v]→∀(w:World) (x:Value),VM w v x→Calls Tryz.prog 88 #[x] w (Yes (SayL [v]) w):=by
 induction N with
 | zero=>intro v h;cases v;simp only [cnt]at h;omega
 | succ N ih=>
   intro v hN hF w x hx
   obtain⟨k,n,t,ks,o,ds⟩:=v
   have hNk:cnts ks≤N:=by simp only [cnt]at hN;omega
   have hfk:FitL ks∧ks.length≤1000:=by
    cases hF with
    | cons h hk hd hs=>exact⟨hk,h.few⟩
   by_cases hd:ds=[]
   case neg=>exact say_desc k n t ks o ds hd _ w x hx
   subst hd
   by_cases hb:12≤k∧k≤15
   ·exact say_bad k (by omega) n t ks o _ w x hx
   by_cases h23:k=23
   ·subst h23
    exact Yes.mono (say_arr n t ks o w x hx) fun h=>.cons (by omega) (fun h=>absurd rfl h) (fun _=>h) (fun h=>absurd h (by omega)) .nil
   by_cases h22:k=22
   ·subst h22
    exact Yes.mono (say_map N ih n t ks hNk hfk.1 hfk.2 o w x hx) fun h=>.cons (by omega) (fun _=>h.1) (fun h=>absurd h (by omega)) (fun _ ps e=>by have:=h.2;rw [e]at this;exact this.mapOk) .nil
   ·exact Yes.mono (say_plain N ih k hb h22 h23 n t ks hNk hfk.1 o w x hx) fun h=>.cons hb (fun _=>h) (fun h=>absurd h h23) (fun h=>absurd h h22) .nil
theorem valueFits_is(v:V)(w:World)(VC:Vld w)(x:Value)(lv:Int)(h0:0≤lv)(h1:lv≤1000)(hx:VM w v x):Calls Tryz.prog 38 #[x,.int .i64 lv] w (Yes (FitL [v]∧cnt v≤2000) w):=by
 have HX:=Lib.hid hx
 obtain⟨A,c,o,A',c',rfl,-,-⟩:=hx.parts'
 have kA:=((Keep.refl (fun _=>True) w).alloc (.cells #[.int .i64 v.kind,.int .u64 (v.num:Int),.string ⟨v.text.toArray⟩,.slice A v.kids.length c,.int .i64 o,.slice A' v.desc.length c'] 78)).alloc (.cells #[.int .i64 2000] 3)
 have hp:=blk_new (w.alloc (.cells #[.int .i64 v.kind,.int .u64 (v.num:Int),.string ⟨v.text.toArray⟩,.slice A v.kids.length c,.int .i64 o,.slice A' v.desc.length c'] 78)) (.cells #[.int .i64 2000] 3)
 have hbx:=blk_alloc (blk_new w (.cells #[.int .i64 v.kind,.int .u64 (v.num:Int),.string ⟨v.text.toArray⟩,.slice A v.kids.length c,.int .i64 o,.slice A' v.desc.length c'] 78)) (.cells #[.int .i64 2000] 3)
 simp only [World.size_alloc]at hp
 have hcall:=few_val (cnt v) v (Nat.le_refl _) _ _ (w.heap.size+1) 2000 (hx.keep kA) hp (by omega)
 have HC:=Lib.hid hcall
 have HV:=Lib.hid VC
 have HBX:=Lib.hid hbx
 clear hx hp hcall VC hbx
 go_enter Tryz.func38,Tryz.ntmps38
 go_wp2_with fail
 refine HC.out.mono ?_
 rintro e w2 ⟨bb,rfl,k2,m',hm,hbb⟩
 have HBB:=Lib.hid hbb
 have k02:New w w2:=kA.then k2 (fun i hi _=>by show i≠w.heap.size+1;omega)
 have hb2:=k2.blk HBX.out (show w.heap.size≠w.heap.size+1 by omega)
 have z0:=(blk_cell hb2 0).trans rfl
 have z1:=(blk_cell hb2 1).trans rfl
 have z2:=(blk_cell hb2 2).trans rfl
 have z3:=(blk_cell hb2 3).trans rfl
 have z4:=(blk_cell hb2 4).trans rfl
 have z5:=(blk_cell hb2 5).trans rfl
 clear hbb hm hb2 k2
 cases bb
 ·go_wp2
  go_ret
  exact Yes.no k02
 ·have hf:=fits_val (cnt v) v (Nat.le_refl _) w2 (HV.out.new k02) _ lv h0 h1 (HX.out.keep k02)
  have HF:=Lib.hid hf
  clear hf
  go_wp2_with fail
  refine HF.out.mono ?_
  rintro e w3 ⟨b3,rfl,k3,hb3⟩
  have HB3:=Lib.hid hb3
  clear hb3
  go_wp2
  go_ret
  exact⟨b3,rfl,k02.trans k3,fun h=>⟨HB3.out h,by have:=HBB.out (by first | rfl | trivial);omega⟩⟩
theorem sayable_is(v:V)(w:World)(VC:Vld w)(x:Value)(hx:VM w v x):Calls Tryz.prog 67 #[x] w (Yes (FitL [v]∧SayL [v]∧cnt v≤300) w):=by
 have HX:=Lib.hid hx
 obtain⟨A,c,o,A',c',rfl,-,-⟩:=hx.parts'
 have kA:=(Keep.refl (fun _=>True) w).alloc (.cells #[.int .i64 v.kind,.int .u64 (v.num:Int),.string ⟨v.text.toArray⟩,.slice A v.kids.length c,.int .i64 o,.slice A' v.desc.length c'] 78)
 have hbx:=blk_new w (.cells #[.int .i64 v.kind,.int .u64 (v.num:Int),.string ⟨v.text.toArray⟩,.slice A v.kids.length c,.int .i64 o,.slice A' v.desc.length c'] 78)
 have HC:=Lib.hid (valueFits_is v _ (VC.new kA) _ 6 (by omega) (by omega) (hx.keep kA))
 have HBX:=Lib.hid hbx
 clear hx VC hbx
 go_enter Tryz.func67,Tryz.ntmps67
 go_wp2_with fail
 refine HC.out.mono ?_
 rintro e w2 ⟨bb,rfl,k2,hbb⟩
 have HBB:=Lib.hid hbb
 have k02:=kA.trans k2
 have hb2:=k2.blk HBX.out trivial
 have HB2:=Lib.hid hb2
 have z0:=(blk_cell hb2 0).trans rfl
 have z1:=(blk_cell hb2 1).trans rfl
 have z2:=(blk_cell hb2 2).trans rfl
 have z3:=(blk_cell hb2 3).trans rfl
 have z4:=(blk_cell hb2 4).trans rfl
 have z5:=(blk_cell hb2 5).trans rfl
 clear hbb hb2 k2
 cases bb
 ·go_wp2
  go_ret
  exact Yes.no k02
 ·obtain⟨hfit,hcn⟩:=HBB.out (by first | rfl | trivial)
  have HFIT:=Lib.hid hfit
  have hv:=values_val 2000 (by omega) v hcn w2 _ (HX.out.keep k02)
  obtain⟨m,hm⟩:∃m,m=cnt v:=⟨_,rfl⟩
  rw [←hm]at hv
  have HVL:=Lib.hid hv
  have HM:=Lib.hid hm
  clear hv hm hfit hcn
  go_wp2_with fail
  refine HVL.out.mono ?_
  rintro e w3 ⟨rfl,k3⟩
  have k03:=k02.trans k3
  have hb3:=k3.blk HB2.out trivial
  have z0:=(blk_cell hb3 0).trans rfl
  have z1:=(blk_cell hb3 1).trans rfl
  have z2:=(blk_cell hb3 2).trans rfl
  have z3:=(blk_cell hb3 3).trans rfl
  have z4:=(blk_cell hb3 4).trans rfl
  have z5:=(blk_cell hb3 5).trans rfl
  clear hb3 k3
  by_cases h300:m≤300
  ·have t3:decide (m≤300)=true:=by simpa using h300
   have t3':decide ((m:Int)≤300)=true:=by simp;omega
   have hs:=say_val (cnt v) v (Nat.le_refl _) HFIT.out w3 _ (HX.out.keep k03)
   have HS:=Lib.hid hs
   clear hs
   go_wp2_with fail
   refine HS.out.mono ?_
   rintro e w4 ⟨b4,rfl,k4,hb4⟩
   have HB4:=Lib.hid hb4
   clear hb4
   go_wp2
   go_ret
   exact⟨b4,rfl,k03.trans k4,fun h=>⟨HFIT.out,HB4.out h,by rw [←HM.out];exact h300⟩⟩
  ·have t3:decide (m≤300)=false:=by simp;omega
   have t3':decide ((m:Int)≤300)=false:=by simp;omega
   go_wp2
   go_ret
   exact Yes.no k03
theorem mapA_of{l:List V}{kk:Int}(hf:FitL [.mk 22 0 [] l 0 []])(hs:SayL [.mk 22 0 [] l 0 []])(hk:KeysK kk l)(hn:NSA [.mk 22 0 [] l 0 []]):MapA (fun k=>k=kk) l:=by
 have hA:=able_of hf hs
 have hev:l.length % 2=0:=by
  cases hf with
  | cons h _ _ _=>exact h.even rfl
 obtain⟨ps,rfl⟩:=flat2_of_even l hev
 refine MapA.of hA hn fun q hq=>?_
 obtain⟨i,hi,rfl⟩:=List.getElem_of_mem hq
 obtain⟨g1,-,g2,-⟩:=flat2_get ps i hi
 have:=hk (2*i) g1 (by omega)
 rwa [g2]at this
theorem mapAsked_is(kk:Int)(l:List V)(w:World)(VC:Vld w)(s:Value)(hs:LM w l s)(d:Nat)(hd:w.heap[d]? =some (.cells #[.int .i64 kk] 3 (0,0))):
 Calls Tryz.prog 45 #[s,.slice (some ⟨d,0,none⟩) 1 1] w (Yes (MapA (fun k=>k=kk) l) w):=by
 obtain⟨A,c,rfl,hc1,hc2⟩:=hs.shape
 obtain⟨a,ha⟩:∃a,a=l.length:=⟨_,rfl⟩
 rw [←ha]at hs ⊢
 have M:=Lib.hid ha
 have HS:=Lib.hid hs
 have HD:=Lib.hid hd
 have HV:=Lib.hid VC
 have kA:=(Keep.refl (fun _=>True) w).alloc (.cells #[.int .i64 22,.int .u64 0,.string ⟨#[]⟩,.slice A a c,.int .i64 0,.slice none 0 0] 78)
 have HBX:=Lib.hid (blk_new w (.cells #[.int .i64 22,.int .u64 0,.string ⟨#[]⟩,.slice A a c,.int .i64 0,.slice none 0 0] 78))
 clear ha hs hd VC hc1 hc2
 by_cases ha0:a=0
 ·subst ha0
  go_enter Tryz.func45,Tryz.ntmps45
  go_wp2
  go_ret
  refine⟨_,rfl,kA,fun _=>?_⟩
  have:l=[]:=List.eq_nil_of_length_eq_zero M.out.symm
  rw [this]
  exact MapA.nil _
 ·have ta:((a:Int)==0)=false:=by simp;omega
  have hv:∀W,New w W→VM W (.mk 22 0 [] l 0 []) (.agg #[.int .i64 22,.int .u64 0,.string ⟨#[]⟩,.slice A a c,.int .i64 0,.slice none 0 0]):=fun W k=>VM.mk (n:=0) (t:=[]) (by omega) (HS.out.keep k) LM.nil
  have HVM:=Lib.hid hv
  have HC:=Lib.hid (sayable_is _ _ (HV.out.new kA) _ (HVM.out _ kA))
  clear hv
  go_enter Tryz.func45,Tryz.ntmps45
  go_wp2_with fail
  refine HC.out.mono ?_
  rintro e w2 ⟨bb,rfl,k2,hbb⟩
  have HBB:=Lib.hid hbb
  have k02:=kA.trans k2
  have hb2:=k2.blk HBX.out trivial
  have HB2:=Lib.hid hb2
  have z0:=(blk_cell hb2 0).trans rfl
  have z1:=(blk_cell hb2 1).trans rfl
  have z2:=(blk_cell hb2 2).trans rfl
  have z3:=(blk_cell hb2 3).trans rfl
  have z4:=(blk_cell hb2 4).trans rfl
  have z5:=(blk_cell hb2 5).trans rfl
  clear hbb hb2 k2
  cases bb
  ·go_wp2
   go_ret
   exact Yes.no k02
  ·have HFS:=Lib.hid (HBB.out (by first | rfl | trivial))
   have hmx:l.length≤1000:=by
    have:=HFS.out.1
    cases this with
    | cons h _ _ _=>exact h.few
   have HK:=Lib.hid (keysOf_is 22 kk 0 [] l 0 [] w2 _ (HVM.out _ k02) hmx d (k02.blk HD.out trivial))
   clear hmx
   go_wp2_with fail
   refine HK.out.mono ?_
   rintro e w3 ⟨b3,rfl,k3,hb3⟩
   have HB3:=Lib.hid hb3
   have k03:=k02.trans k3
   have hb4:=k3.blk HB2.out trivial
   have z0:=(blk_cell hb4 0).trans rfl
   have z1:=(blk_cell hb4 1).trans rfl
   have z2:=(blk_cell hb4 2).trans rfl
   have z3:=(blk_cell hb4 3).trans rfl
   have z4:=(blk_cell hb4 4).trans rfl
   have z5:=(blk_cell hb4 5).trans rfl
   clear hb3 hb4 k3
   cases b3
   ·go_wp2
    go_ret
    exact Yes.no k03
   ·have HSA:=Lib.hid (sa_val _ _ (Nat.le_refl _) HFS.out.1 w3 _ (HVM.out _ k03))
    have HKK:=Lib.hid (HB3.out (by first | rfl | trivial))
    go_wp2_with fail
    refine HSA.out.mono ?_
    rintro e w4 ⟨b4,rfl,k4,hb4⟩
    have HB4:=Lib.hid hb4
    clear hb4
    cases b4
    ·go_wp2
     go_ret
     exact⟨_,rfl,k03.trans k4,fun _=>mapA_of HFS.out.1 HFS.out.2.1 HKK.out.2 (HB4.out (by first | rfl | trivial))⟩
    ·go_wp2
     go_ret
     exact Yes.no (k03.trans k4)
theorem compFits_is(c:Nat)(hc:c<18446744073709551616)(fs:List (V×V))(hm:fs.length≤1000)(w:World)(VC:Vld w)(s:Value)(hs:FM w fs s):
 Calls Tryz.prog 12 #[.agg #[.int .u64 (c:Int),s]] w (Yes (FitL [.mk 21 0 [] (fs.map (·.1)) 0 [.mk 5 c [] [] 0 []]]∧cnt (.mk 21 0 [] (fs.map (·.1)) 0 [.mk 5 c [] [] 0 []])≤300) w):=by
 obtain⟨A,cc,rfl,-,-⟩:=hs.shape
 obtain⟨n,hn⟩:∃n,n=fs.length:=⟨_,rfl⟩
 have hm':=hm
 rw [←hn]at hs hm ⊢
 have M:=Lib.hid hn
 have kA:=(Keep.refl (fun _=>True) w).alloc (.cells #[.int .u64 (c:Int),.slice A n cc] 33)
 have HW:=Lib.hid (whole_is c hc fs hm' (w.alloc (.cells #[.int .u64 (c:Int),.slice A n cc] 33)) _ (hs.keep kA) n hn)
 have HV:=Lib.hid VC
 obtain⟨v,hv⟩:∃v,v=V.mk 21 0 [] (fs.map (·.1)) 0 [.mk 5 c [] [] 0 []]:=⟨_,rfl⟩
 rw [←hv]
 have HVE:=Lib.hid hv
 clear hs hm' hn VC hv
 go_enter Tryz.func12,Tryz.ntmps12
 go_wp2_with fail
 refine HW.out.mono ?_
 rintro e w1 ⟨sk,d,rfl,k1,⟨cells,hown,hmem⟩,hd1,hdb⟩
 obtain⟨Ag,cap,rfl⟩:=own_shape hown
 have k01:=kA.trans k1
 have hvm:VM w1 v (.agg #[.int .i64 21,.int .u64 0,.string ⟨#[]⟩,.slice Ag n cap,.int .i64 0,.slice (some ⟨d,0,none⟩) 1 1]):=by
  rw [HVE.out]
  refine VM.mk (n:=0) (t:=[]) (by omega) (LM.own (base:=d+2) (cells:=cells) (by rw [List.length_map,←M.out];exact hown) (hmem.keep k1)) ?_
  refine⟨_,⟨some ⟨d,0,none⟩,1,rfl,Nat.le_refl _,by unfold maxLen;omega,?_,fun _=>⟨d,0,rfl,fun q u hq=>?_⟩⟩,mem_plain w1 5 c [] hc⟩
  ·rfl
  ·rw [blk_cell hdb,Nat.zero_add]
   simpa using hq
 have kB:=(Keep.refl (fun _=>True) w1).alloc (.cells #[.int .i64 21,.int .u64 0,.string ⟨#[]⟩,.slice Ag n cap,.int .i64 0,.slice (some ⟨d,0,none⟩) 1 1] 78)
 have HBX:=Lib.hid (blk_new w1 (.cells #[.int .i64 21,.int .u64 0,.string ⟨#[]⟩,.slice Ag n cap,.int .i64 0,.slice (some ⟨d,0,none⟩) 1 1] 78))
 have HC:=Lib.hid (valueFits_is v _ (HV.out.new (k01.trans kB)) _ 8 (by omega) (by omega) (hvm.keep kB))
 have HVM:=Lib.hid (hvm.keep kB)
 have k0B:=k01.trans kB
 clear hown hmem hd1 hdb hvm
 go_wp2_with fail
 refine HC.out.mono ?_
 rintro e w2 ⟨bb,rfl,k2,hbb⟩
 have HBB:=Lib.hid hbb
 have k02:=k0B.trans k2
 have hb2:=k2.blk HBX.out trivial
 have z0:=(blk_cell hb2 0).trans rfl
 have z1:=(blk_cell hb2 1).trans rfl
 have z2:=(blk_cell hb2 2).trans rfl
 have z3:=(blk_cell hb2 3).trans rfl
 have z4:=(blk_cell hb2 4).trans rfl
 have z5:=(blk_cell hb2 5).trans rfl
 clear hbb hb2
 cases bb
 ·go_wp2
  go_ret
  exact Yes.no k02
 ·obtain⟨hfit,hcn⟩:=HBB.out (by first | rfl | trivial)
  have HFIT:=Lib.hid hfit
  have hvl:=values_val 2000 (by omega) v hcn w2 _ (HVM.out.keep k2)
  obtain⟨m,hm⟩:∃m,m=cnt v:=⟨_,rfl⟩
  rw [←hm]at hvl
  have HVL:=Lib.hid hvl
  have HM:=Lib.hid hm
  clear hvl hm hfit hcn k2
  go_wp2_with fail
  refine HVL.out.mono ?_
  rintro e w3 ⟨rfl,k3⟩
  go_wp2
  go_ret
  exact⟨_,rfl,k02.trans k3,fun h=>⟨HFIT.out,by have:=HM.out;simp at h;omega⟩⟩
end Go.Proofs.YtfoegolfadhmjaaGreatDoor
