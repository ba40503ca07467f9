/- spec.AsRead at plain values; spec.ValueFits; laws.zzFits4. spec.Sayable but for maps. spec.Sayable at maps. spec.Sayable whole, spec.ValueFits, laws.sayable, laws.mapAsked. laws.mapAsked, laws.askedFault, spec.Composite.Fits. Arguments: the values that came in, out of how they read. Arguments and tables: how what comes in reads, for the rows. -/
import Derived.Test.YtfoegolfadhmjaaGreatDoorU03
import Derived.Test.YtfoegolfadhmjaaGreatDoorU06
import Derived.Test.YtfoegolfadhmjaaGreatDoorU07
import Derived.Test.YtfoegolfadhmjaaGreatDoorU09
import Derived.Test.YtfoegolfadhmjaaGreatDoorU10
import Derived.Test.YtfoegolfadhmjaaGreatDoorV11
import Derived.Test.YtfoegolfadhmjaaGreatDoorV12
import Derived.ChangeShapes
import Derived.ChangeMaps5
import Derived.Lib.LaidU8T
set_option linter.unusedVariables false
set_option linter.unusedSimpArgs false
set_option maxRecDepth 100000
set_option maxHeartbeats 16000000
set_option linter.all false
namespace Go.Proofs.YtfoegolfadhmjaaGreatDoor
open Go.RowKit Go.WideShapes Go.Sort
def rkK(k:Int):Int:=if k=20 then 19 else k
theorem asRead_leaf(k:Int)(n:Nat)(t:List UInt8)(o:Int)(A1 A2:Option Addr)(c1 c2:Nat)(w:World):
 Calls Tryz.prog 145 #[.agg #[.int .i64 k,.int .u64 (n:Int),.string ⟨t.toArray⟩,.slice A1 0 c1,.int .i64 o,.slice A2 0 c2]] w fun e w'=>e=.returned (.agg #[.int .i64 (rkK k),.int .u64 (n:Int),.string ⟨t.toArray⟩,.slice none 0 0,.int .i64 o,.slice A2 0 c2])∧New w w':=by
 by_cases hk:k=20
 ·subst hk
  have hr:rkK 20=19:=rfl
  rw [hr]
  clear hr
  go_enter Tryz.func145,Tryz.ntmps145
  go_wp2_with fail
  go_loopg [15] 0 (fun kk s15 wr=>kk=0∧s15=.int .i64 0∧New w wr∧wr.heap[w.heap.size+1]? =some (.cells #[.int .i64 0,.int .u64 0,.string ⟨#[]⟩,.slice none 0 0,.int .i64 0,.slice none 0 0] 78 (0,0))∧wr.heap[w.heap.size+2]? =some (.cells #[.int .i64 19,.int .u64 (n:Int),.string ⟨t.toArray⟩,.slice none 0 0,.int .i64 o,.slice A2 0 c2] 78 (0,0)))
  case atStart=>
   refine⟨rfl,rfl,(((Keep.refl _ w).alloc _).alloc _).alloc _,?_,?_⟩
   ·exact blk_alloc (by simpa using blk_new (w.alloc (.cells #[.int .i64 20,.int .u64 (n:Int),.string ⟨t.toArray⟩,.slice A1 0 c1,.int .i64 o,.slice A2 0 c2] 78)) (.cells #[.int .i64 0,.int .u64 0,.string ⟨#[]⟩,.slice none 0 0,.int .i64 0,.slice none 0 0] 78)) _
   ·simpa using blk_new ((w.alloc (.cells #[.int .i64 20,.int .u64 (n:Int),.string ⟨t.toArray⟩,.slice A1 0 c1,.int .i64 o,.slice A2 0 c2] 78)).alloc (.cells #[.int .i64 0,.int .u64 0,.string ⟨#[]⟩,.slice none 0 0,.int .i64 0,.slice none 0 0] 78)) (.cells #[.int .i64 19,.int .u64 (n:Int),.string ⟨t.toArray⟩,.slice none 0 0,.int .i64 o,.slice A2 0 c2] 78)
  case round=>
   obtain⟨rfl,rfl,kr,h1,h2⟩:=hrel
   have x0:=(blk_cell h1 0).trans rfl
   have x1:=(blk_cell h1 1).trans rfl
   have x2:=(blk_cell h1 2).trans rfl
   have x3:=(blk_cell h1 3).trans rfl
   have x4:=(blk_cell h1 4).trans rfl
   have x5:=(blk_cell h1 5).trans rfl
   have f0:=blk_free h1 0
   have f1:=blk_free h1 1
   have f2:=blk_free h1 2
   have f3:=blk_free h1 3
   have f4:=blk_free h1 4
   have f5:=blk_free h1 5
   have y0:=(blk_cell h2 0).trans rfl
   have y1:=(blk_cell h2 1).trans rfl
   have y2:=(blk_cell h2 2).trans rfl
   have y3:=(blk_cell h2 3).trans rfl
   have y4:=(blk_cell h2 4).trans rfl
   have y5:=(blk_cell h2 5).trans rfl
   clear h1 h2
   go_wp2
   refine bodyPost_ret (v:=.agg #[.int .i64 19,.int .u64 (n:Int),.string ⟨t.toArray⟩,.slice none 0 0,.int .i64 o,.slice A2 0 c2]) (by simp [results,Tryz.results145,go_sem,x0,x1,x2,x3,x4,x5]) rfl ⟨rfl,?_⟩
   repeat (refine Keep.setCell ?_ (Or.inl (b:=¬True) (Nat.le_succ _)) _)
   exact kr
 ·have hr:rkK k=k:=if_neg hk
  have t20:(k==20)=false:=by simpa using hk
  rw [hr]
  clear hk hr
  go_enter Tryz.func145,Tryz.ntmps145
  go_wp2_with fail
  go_loopg [15] 0 (fun kk s15 wr=>kk=0∧s15=.int .i64 0∧New w wr∧wr.heap[w.heap.size+1]? =some (.cells #[.int .i64 0,.int .u64 0,.string ⟨#[]⟩,.slice none 0 0,.int .i64 0,.slice none 0 0] 78 (0,0))∧wr.heap[w.heap.size+2]? =some (.cells #[.int .i64 k,.int .u64 (n:Int),.string ⟨t.toArray⟩,.slice none 0 0,.int .i64 o,.slice A2 0 c2] 78 (0,0)))
  case atStart=>
   refine⟨rfl,rfl,(((Keep.refl _ w).alloc _).alloc _).alloc _,?_,?_⟩
   ·exact blk_alloc (by simpa using blk_new (w.alloc (.cells #[.int .i64 k,.int .u64 (n:Int),.string ⟨t.toArray⟩,.slice A1 0 c1,.int .i64 o,.slice A2 0 c2] 78)) (.cells #[.int .i64 0,.int .u64 0,.string ⟨#[]⟩,.slice none 0 0,.int .i64 0,.slice none 0 0] 78)) _
   ·simpa using blk_new ((w.alloc (.cells #[.int .i64 k,.int .u64 (n:Int),.string ⟨t.toArray⟩,.slice A1 0 c1,.int .i64 o,.slice A2 0 c2] 78)).alloc (.cells #[.int .i64 0,.int .u64 0,.string ⟨#[]⟩,.slice none 0 0,.int .i64 0,.slice none 0 0] 78)) (.cells #[.int .i64 k,.int .u64 (n:Int),.string ⟨t.toArray⟩,.slice none 0 0,.int .i64 o,.slice A2 0 c2] 78)
  case round=>
   obtain⟨rfl,rfl,kr,h1,h2⟩:=hrel
   have x0:=(blk_cell h1 0).trans rfl
   have x1:=(blk_cell h1 1).trans rfl
   have x2:=(blk_cell h1 2).trans rfl
   have x3:=(blk_cell h1 3).trans rfl
   have x4:=(blk_cell h1 4).trans rfl
   have x5:=(blk_cell h1 5).trans rfl
   have f0:=blk_free h1 0
   have f1:=blk_free h1 1
   have f2:=blk_free h1 2
   have f3:=blk_free h1 3
   have f4:=blk_free h1 4
   have f5:=blk_free h1 5
   have y0:=(blk_cell h2 0).trans rfl
   have y1:=(blk_cell h2 1).trans rfl
   have y2:=(blk_cell h2 2).trans rfl
   have y3:=(blk_cell h2 3).trans rfl
   have y4:=(blk_cell h2 4).trans rfl
   have y5:=(blk_cell h2 5).trans rfl
   clear h1 h2
   go_wp2
   refine bodyPost_ret (v:=.agg #[.int .i64 k,.int .u64 (n:Int),.string ⟨t.toArray⟩,.slice none 0 0,.int .i64 o,.slice A2 0 c2]) (by simp [results,Tryz.results145,go_sem,x0,x1,x2,x3,x4,x5]) rfl ⟨rfl,?_⟩
   repeat (refine Keep.setCell ?_ (Or.inl (b:=¬True) (Nat.le_succ _)) _)
   exact kr
theorem VM.asRead{w:World}{k:Int}{n:Nat}{t:List UInt8}{o:Int}{A1 A2:Option Addr}{c1 c2:Nat}(h:VM w (.mk k n t [] o []) (.agg #[.int .i64 k,.int .u64 (n:Int),.string ⟨t.toArray⟩,.slice A1 0 c1,.int .i64 o,.slice A2 0 c2]))(W:World):
 VM W (.mk (rkK k) n t [] o []) (.agg #[.int .i64 (rkK k),.int .u64 (n:Int),.string ⟨t.toArray⟩,.slice none 0 0,.int .i64 o,.slice A2 0 c2]):=by
 obtain⟨sk,sd,he,hn,hk,hd⟩:=h.inv
 simp only [Value.agg.injEq,Array.mk.injEq,List.cons.injEq,and_true,true_and]at he
 obtain⟨rfl,rfl⟩:=he
 exact VM.mk hn LM.nil hd.empty
theorem sameV_rk{k k':Int}{n n':Nat}{t t':List UInt8}{o o':Int}(h:sameV (.mk (rkK k) n t [] o []) (.mk (rkK k') n' t' [] o' [])=false):rk (.mk k n t [] o [])≠rk (.mk k' n' t' [] o' []):=by
 intro e
 simp only [rk,V.kind,V.num,V.text,Prod.mk.injEq]at e
 obtain⟨e1,e2,e3⟩:=e
 have e1':rkK k=rkK k':=e1
 rw [e1',e2,e3]at h
 simp [sameV,sameVs,sameD]at h
def KeysD(ks:List V)(j:Nat):Prop:=(∀i (h:i<ks.length),i<j→i % 2=0→KeyK ks[i].kind)∧∀i i' (h:i<ks.length) (h':i'<ks.length),i<i'→i'<j→i % 2=0→i' % 2=0→rk ks[i]≠rk ks[i']
theorem KeysD.mapOk{ps:List (V×V)}(h:KeysD (flat2 ps) (flat2 ps).length):MapOk ps:=by
 obtain⟨h1,h2⟩:=h
 refine⟨fun q hq=>?_,?_⟩
 ·obtain⟨i,hi,rfl⟩:=List.getElem_of_mem hq
  obtain⟨g1,-,g2,-⟩:=flat2_get ps i hi
  have:=h1 (2*i) g1 g1 (by omega)
  rwa [g2]at this
 ·rw [List.Nodup,List.pairwise_iff_getElem]
  intro i j hi hj hij
  rw [List.length_map]at hi hj
  obtain⟨g1,-,g2,-⟩:=flat2_get ps i hi
  obtain⟨g3,-,g4,-⟩:=flat2_get ps j hj
  have:=h2 (2*i) (2*j) g1 g3 (by omega) g3 (by omega) (by omega)
  rw [g2,g4]at this
  simpa using this
theorem KeysD.odd{ks:List V}{j:Nat}(h:KeysD ks j)(hj:j % 2=1):KeysD ks (j+1):=
 ⟨fun i hi hlt h2=>h.1 i hi (by omega) h2,fun i i' hi hi' hlt hlt' h2 h2'=>h.2 i i' hi hi' hlt (by omega) h2 h2'⟩
theorem KeysD.even{ks:List V}{j:Nat}(h:KeysD ks j)(hj:j<ks.length)(hk:KeyK ks[j].kind)(hd:∀i (h:i<ks.length),i<j→i % 2=0→rk ks[i]≠rk ks[j]):KeysD ks (j+1):=by
 refine⟨fun i hi hlt h2=>?_,fun i i' hi hi' hlt hlt' h2 h2'=>?_⟩
 ·rcases Nat.lt_or_ge i j with h1 | h1
  ·exact h.1 i hi h1 h2
  ·obtain rfl:i=j:=by omega
   exact hk
 ·rcases Nat.lt_or_ge i' j with h1 | h1
  ·exact h.2 i i' hi hi' hlt h1 h2 h2'
  ·obtain rfl:i'=j:=by omega
   exact hd i hi hlt h2
theorem SayL.append{l m:List V}(h:SayL l)(k:SayL m):SayL (l++m):=by
 induction h with
 | nil=>exact k
 | cons h1 h2 h3 h4 hs _ ih=>exact .cons h1 h2 h3 h4 ih
theorem say_desc(k:Int)(n:Nat)(t:List UInt8)(ks:List V)(o:Int)(ds:List V)(hd:ds≠[])(p:Prop)(w:World)(x:Value)(hx:VM w (.mk k n t ks o ds) x):Calls Tryz.prog 88 #[x] w (Yes p w):=by
 have hb0:0<ds.length:=List.length_pos_iff.2 hd
 obtain⟨sk,sd,rfl,hn,hks,hds⟩:=hx.inv
 obtain⟨A1,c1,rfl,hl1,hl1'⟩:=hks.shape
 obtain⟨A2,c2,rfl,hl2,hl2'⟩:=hds.shape
 have hml:ks.length≤maxLen:=by omega
 unfold maxLen at hml
 clear hl1 hl1' hl2 hl2' hx
 obtain⟨a,ha⟩:∃a,a=ks.length:=⟨_,rfl⟩
 rw [←ha]at hml hks ⊢
 obtain⟨b,hb⟩:∃b,b=ds.length:=⟨_,rfl⟩
 rw [←hb]at hb0 ⊢
 have tb:decide (0<b)=true:=by simpa using hb0
 have tb':decide ((0:Int)<(b:Int))=true:=by simp;omega
 clear ha hb hks hds hd
 go_enter Tryz.func88,Tryz.ntmps88
 go_wp2
 go_ret
 exact Yes.no ((Keep.refl _ w).alloc _)
theorem say_bad(k:Int)(hk:k=12∨k=13∨k=14∨k=15)(n:Nat)(t:List UInt8)(ks:List V)(o:Int)(p:Prop)(w:World)(x:Value)(hx:VM w (.mk k n t ks o []) x):Calls Tryz.prog 88 #[x] w (Yes p w):=by
 obtain⟨sk,sd,rfl,hn,hks,hds⟩:=hx.inv
 obtain⟨A1,c1,rfl,hl1,hl1'⟩:=hks.shape
 obtain⟨A2,c2,rfl,hl2,hl2'⟩:=hds.shape
 have hml:ks.length≤maxLen:=by omega
 unfold maxLen at hml
 clear hl1 hl1' hl2 hl2' hx
 obtain⟨a,ha⟩:∃a,a=ks.length:=⟨_,rfl⟩
 rw [←ha]at hml hks ⊢
 simp only [List.length_nil]
 clear ha hks hds
 rcases hk with rfl | rfl | rfl | rfl
 all_goals
  go_enter Tryz.func88,Tryz.ntmps88
  go_wp2
  go_ret
  exact Yes.no ((Keep.refl _ w).alloc _)
def ArrS(ks:List V):Prop:=ks≠[]∧(∀v,ks.head? =some v→(1≤v.kind∧v.kind≤11∨16≤v.kind∧v.kind≤20)∧v.desc=[])∧TextsA ks
theorem say_arr(n:Nat)(t:List UInt8)(ks:List V)(o:Int)(w:World)(x:Value)(hx:VM w (.mk 23 n t ks o []) x):Calls Tryz.prog 88 #[x] w (Yes (ArrS ks) w):=by
 obtain⟨sk,sd,rfl,hn,hks,hds⟩:=hx.inv
 obtain⟨A1,c1,rfl,hl1,hl1'⟩:=hks.shape
 obtain⟨A2,c2,rfl,hl2,hl2'⟩:=hds.shape
 have hml:ks.length≤maxLen:=by omega
 unfold maxLen at hml
 clear hl1 hl1' hl2 hl2' hx
 obtain⟨a,ha⟩:∃a,a=ks.length:=⟨_,rfl⟩
 rw [←ha]at hml hks ⊢
 simp only [List.length_nil]
 have M:=Lib.hid ha
 have HK:=Lib.hid hks
 clear ha hks hds
 by_cases ha0:a=0
 ·subst ha0
  go_enter Tryz.func88,Tryz.ntmps88
  go_wp2
  go_ret
  exact Yes.no ((Keep.refl _ w).alloc _)
 ·have ta:decide (0<a)=true:=by simp;omega
  have ta':decide ((0:Int)<(a:Int))=true:=by simp;omega
  have hpos:0<a:=by omega
  have hj1:0<ks.length:=by rw [←M.out];exact hpos
  obtain⟨d2,i2,hAe,-,-,-,hat⟩:=HK.out.at2 (fun h=>by rw [h]at hj1;simp at hj1)
  cases hAe
  obtain⟨e0,e1,e2,e3,e4,e5,hve,g0,g1,g2,g3,g4,g5⟩:=hat 0 hj1
  simp only [Nat.zero_mul,Nat.add_zero]at g0 g1 g2 g3 g4 g5
  obtain⟨A9,c9,o9,A0,c10,heq,-,-⟩:=hve.parts'
  simp only [Value.agg.injEq,Array.mk.injEq,List.cons.injEq,and_true]at heq
  obtain⟨rfl,rfl,rfl,rfl,rfl,rfl⟩:=heq
  have hhd:∀v,ks.head? =some v→v=ks[0]:=fun v hv=>by
   rcases ks with _ | ⟨y,ks⟩
   ·cases hv
   ·cases hv;rfl
  obtain⟨u,hu⟩:∃u,u=ks[0]'hj1:=⟨_,rfl⟩
  rw [←hu]at g0 g5 hhd
  have HHD:=Lib.hid hhd
  have kA:=(Keep.refl (fun _=>True) w).alloc (.cells #[.int .i64 23,.int .u64 (n:Int),.string ⟨t.toArray⟩,.slice (some ⟨d2,i2,none⟩) a c1,.int .i64 o,.slice A2 0 c2] 78)
  have hbx:=blk_new w (.cells #[.int .i64 23,.int .u64 (n:Int),.string ⟨t.toArray⟩,.slice (some ⟨d2,i2,none⟩) a c1,.int .i64 o,.slice A2 0 c2] 78)
  have q0:=kA.cell g0 trivial
  have q5:=kA.cell g5 trivial
  have HBX:=Lib.hid hbx
  have hak:=arrayKind_is u.kind (w.alloc (.cells #[.int .i64 23,.int .u64 (n:Int),.string ⟨t.toArray⟩,.slice (some ⟨d2,i2,none⟩) a c1,.int .i64 o,.slice A2 0 c2] 78))
  have HAK:=Lib.hid hak
  have G5:=Lib.hid g5
  clear hve hat hu hhd hbx hak g0 g1 g2 g3 g4
  go_enter Tryz.func88,Tryz.ntmps88
  go_wp2_with fail
  refine HAK.out.mono ?_
  rintro e w2 ⟨bb,rfl,k2,hbb⟩
  have HBB:=Lib.hid hbb
  have K2:=Lib.hid (kA.trans k2)
  have z3:=(blk_cell (k2.blk HBX.out trivial) 3).trans rfl
  have y5:=k2.cell q5 trivial
  clear hbb q0 q5 k2 kA g5
  cases bb
  ·go_wp2
   go_ret
   exact Yes.no K2.out
  ·obtain⟨m,hm⟩:∃m,m=u.desc.length:=⟨_,rfl⟩
   rw [←hm]at y5
   have HM:=Lib.hid hm
   clear hm
   by_cases hm0:m=0
   ·subst hm0
    have hask:=asked_is ks w2 _ (HK.out.keep K2.out)
    have HASK:=Lib.hid hask
    clear hask
    go_wp2_with fail
    refine HASK.out.mono ?_
    rintro e w3 ⟨b3,rfl,k3,hb3⟩
    have HB3:=Lib.hid hb3
    have K3:=Lib.hid (K2.out.trans k3)
    clear hb3
    go_wp2
    go_ret
    refine⟨b3,rfl,K3.out,fun h=>⟨fun e=>by have:=M.out;rw [e]at this;simp at this;omega,fun v hv=>?_,HB3.out h⟩⟩
    rw [HHD.out v hv]
    exact⟨HBB.out (by first | rfl | trivial),List.eq_nil_of_length_eq_zero HM.out.symm⟩
   ·have tm:((m:Int)==0)=false:=by simp;omega
    go_wp2
    go_ret
    exact Yes.no K2.out
theorem say_plain(N:Nat)(IH:∀u:V,cnt u≤N→FitL [u]→∀(w:World) (x:Value),VM w u x→Calls Tryz.prog 88 #[x] w (Yes (SayL [u]) w))(k:Int)(h1:¬(12≤k∧k≤15))(h2:k≠22)(h3:k≠23)(n:Nat)(t:List UInt8)(ks:List V)(hN:cnts ks≤N)(hF:FitL ks)(o:Int)(w:World)(x:Value)(hx:VM w (.mk k n t ks o []) x):Calls Tryz.prog 88 #[x] w (Yes (SayL ks) w):=by
 obtain⟨sk,sd,rfl,hn,hks,hds⟩:=hx.inv
 obtain⟨A1,c1,rfl,hl1,hl1'⟩:=hks.shape
 obtain⟨A2,c2,rfl,hl2,hl2'⟩:=hds.shape
 have hml:ks.length≤maxLen:=by omega
 unfold maxLen at hml
 clear hl1 hl1' hl2 hl2' hx
 obtain⟨a,ha⟩:∃a,a=ks.length:=⟨_,rfl⟩
 rw [←ha]at hml hks ⊢
 simp only [List.length_nil]
 have M:=Lib.hid ha
 have HK:=Lib.hid hks
 have HI:=Lib.hid IH
 have HF:=Lib.hid hF
 have e12:(k==12)=false:=by simp;omega
 have e13:(k==13)=false:=by simp;omega
 have e14:(k==14)=false:=by simp;omega
 have e15:(k==15)=false:=by simp;omega
 have e22:(k !=22)=true:=by simp;omega
 have e22':(k==22)=false:=by simp;omega
 have e23:(k==23)=false:=by simp;omega
 have kA:=(Keep.refl (fun _=>True) w).alloc (.cells #[.int .i64 k,.int .u64 (n:Int),.string ⟨t.toArray⟩,.slice A1 a c1,.int .i64 o,.slice A2 0 c2] 78)
 have HBX:=Lib.hid (blk_new w (.cells #[.int .i64 k,.int .u64 (n:Int),.string ⟨t.toArray⟩,.slice A1 a c1,.int .i64 o,.slice A2 0 c2] 78))
 clear ha hks hds h1 h2 h3 IH hF
 go_enter Tryz.func88,Tryz.ntmps88
 go_wp2_with fail
 go_loopg [62] a (fun kk s62 wr=>∃j:Nat,j+kk=a∧s62=.int .i64 (j:Int)∧New w wr∧wr.heap[w.heap.size]? =some (.cells #[.int .i64 k,.int .u64 (n:Int),.string ⟨t.toArray⟩,.slice A1 a c1,.int .i64 o,.slice A2 0 c2] 78 (0,0))∧SayL (ks.take j))
 case atStart=>exact⟨0,by omega,rfl,kA,HBX.out,by rw [List.take_zero];exact .nil⟩
 case round=>
  obtain⟨j,hj,rfl,kr,hb,hall⟩:=hrel
  have HALL:=Lib.hid hall
  have HBR:=Lib.hid hb
  clear hall hb
  rcases gk with _ | kk
  ·obtain rfl:a=j:=by omega
   go_wp2
   go_ret
   exact⟨_,rfl,kr,fun _=>by have:=HALL.out;rwa [M.out,List.take_length]at this⟩
  ·have hjn:j<a:=by omega
   have tj:decide (j<a)=true:=by simpa using hjn
   have hj1:j<ks.length:=by rw [←M.out];exact hjn
   obtain⟨d2,i2,hAe,-,-,-,hat⟩:=(HK.out.keep kr).at2 (fun h=>by rw [h]at hj1;simp at hj1)
   cases hAe
   obtain⟨e0,e1,e2,e3,e4,e5,hve,g0,g1,g2,g3,g4,g5⟩:=hat j hj1
   obtain⟨A9,c9,o9,A0,c10,heq,-,-⟩:=hve.parts'
   simp only [Value.agg.injEq,Array.mk.injEq,List.cons.injEq,and_true]at heq
   obtain⟨rfl,rfl,rfl,rfl,rfl,rfl⟩:=heq
   have hfu:=HF.out.get j hj1
   obtain⟨u,hu⟩:∃u,u=ks[j]:=⟨_,rfl⟩
   have htk:ks.take (j+1)=ks.take j++[u]:=by rw [←List.take_append_getElem hj1,hu]
   have hNu:cnt u≤N:=by rw [hu];exact Nat.le_trans (cnts_get ks j hj1) hN
   rw [←hu]at hve g0 g1 g2 g3 g5 hfu
   have kE:=(Keep.refl (fun _=>True) wr).alloc (.cells #[.int .i64 u.kind,.int .u64 (u.num:Int),.string ⟨u.text.toArray⟩,.slice A9 u.kids.length c9,.int .i64 o9,.slice A0 u.desc.length c10] 78)
   have HC:=Lib.hid (HI.out u hNu hfu _ _ (hve.keep kE))
   have HTK:=Lib.hid htk
   clear hve hat hu htk hfu
   go_wp2_with fail
   refine HC.out.mono ?_
   rintro e w2 ⟨bb,rfl,k2,hbb⟩
   have HBB:=Lib.hid hbb
   have K2:=Lib.hid ((kr.trans kE).trans k2)
   have hb2:=k2.blk (kE.blk HBR.out trivial) trivial
   have HB2:=Lib.hid hb2
   have z0:=(blk_cell hb2 0).trans rfl
   clear hbb hb2
   cases bb
   ·go_wp2
    go_ret
    exact Yes.no K2.out
   ·go_wp2
    go_roundg kk
    case measure=>omega
    case rel=>exact⟨j+1,by omega,congrArg _ (by omega),K2.out,HB2.out,by rw [HTK.out];exact HALL.out.append (HBB.out (by first | rfl | trivial))⟩
theorem FitL.mem1{l:List V}(h:FitL l)(j:Nat)(hj:j<l.length):FitC l[j].kind l[j].num l[j].text l[j].kids l[j].desc:=h.mem _ (List.getElem_mem hj)
theorem SayL.desc{v:V}(h:SayL [v]):v.desc=[]:=by cases h;rfl
theorem SayL.get{l:List V}(h:SayL l):∀j (hj:j<l.length),l[j].desc=[]:=by
 induction h with
 | nil=>intro j hj;simp at hj
 | cons h1 h2 h3 h4 hs _ ih=>
   intro j hj
   cases j with
   | zero=>rfl
   | succ j=>exact ih j (by simpa using hj)
theorem keyP_K{k:Int}(h:keyP k):KeyK k:=h
theorem say_map(N:Nat)(IH:∀u:V,cnt u≤N→FitL [u]→∀(w:World) (x:Value),VM w u x→Calls Tryz.prog 88 #[x] w (Yes (SayL [u]) w))(n:Nat)(t:List UInt8)(ks:List V)(hN:cnts ks≤N)(hF:FitL ks)(hmx:ks.length≤1000)(o:Int)(w:World)(x:Value)(hx:VM w (.mk 22 n t ks o []) x):Calls Tryz.prog 88 #[x] w (Yes (SayL ks∧KeysD ks ks.length) w):=by
 obtain⟨sk,sd,rfl,hn,hks,hds⟩:=hx.inv
 obtain⟨A1,c1,rfl,hl1,hl1'⟩:=hks.shape
 obtain⟨A2,c2,rfl,hl2,hl2'⟩:=hds.shape
 have hml:ks.length≤maxLen:=by omega
 unfold maxLen at hml
 clear hl1 hl1' hl2 hl2' hx
 obtain⟨a,ha⟩:∃a,a=ks.length:=⟨_,rfl⟩
 rw [←ha]at hml hks ⊢
 simp only [List.length_nil]
 have hml:=hmx
 rw [←ha]at hml
 have M:=Lib.hid ha
 have HK:=Lib.hid hks
 have HI:=Lib.hid IH
 have HF:=Lib.hid hF
 have kA:=(Keep.refl (fun _=>True) w).alloc (.cells #[.int .i64 22,.int .u64 (n:Int),.string ⟨t.toArray⟩,.slice A1 a c1,.int .i64 o,.slice A2 0 c2] 78)
 have HBX:=Lib.hid (blk_new w (.cells #[.int .i64 22,.int .u64 (n:Int),.string ⟨t.toArray⟩,.slice A1 a c1,.int .i64 o,.slice A2 0 c2] 78))
 clear ha hks hds IH hF hmx
 go_enter Tryz.func88,Tryz.ntmps88
 go_wp2_with fail
 go_loopg [62] a (fun kk s62 wr=>∃j:Nat,j+kk=a∧s62=.int .i64 (j:Int)∧New w wr∧wr.heap[w.heap.size]? =some (.cells #[.int .i64 22,.int .u64 (n:Int),.string ⟨t.toArray⟩,.slice A1 a c1,.int .i64 o,.slice A2 0 c2] 78 (0,0))∧SayL (ks.take j)∧KeysD ks j)
 case atStart=>exact⟨0,by omega,rfl,kA,HBX.out,by rw [List.take_zero];exact .nil,fun i h h0=>absurd h0 (by omega),fun i i' h h' h0 h1=>absurd h1 (by omega)⟩
 case round=>
  obtain⟨j,hj,rfl,kr,hb,hall,hkd⟩:=hrel
  have HALL:=Lib.hid hall
  have HKD:=Lib.hid hkd
  have HBR:=Lib.hid hb
  clear hall hb hkd
  rcases gk with _ | kk
  ·obtain rfl:a=j:=by omega
   go_wp2
   go_ret
   exact⟨_,rfl,kr,fun _=>⟨by have:=HALL.out;rwa [M.out,List.take_length]at this,by have:=HKD.out;rwa [M.out]at this⟩⟩
  ·have hjn:j<a:=by omega
   have tj:decide (j<a)=true:=by simpa using hjn
   have hj1:j<ks.length:=by rw [←M.out];exact hjn
   have hq:((j:Int)).tmod 2=((j % 2:Nat):Int):=by rw [Int.tmod_eq_emod_of_nonneg (by omega)];omega
   obtain⟨d2,i2,hAe,-,-,-,hat⟩:=(HK.out.keep kr).at2 (fun h=>by rw [h]at hj1;simp at hj1)
   cases hAe
   obtain⟨e0,e1,e2,e3,e4,e5,hve,g0,g1,g2,g3,g4,g5⟩:=hat j hj1
   obtain⟨A9,c9,o9,A0,c10,heq,-,-⟩:=hve.parts'
   simp only [Value.agg.injEq,Array.mk.injEq,List.cons.injEq,and_true]at heq
   obtain⟨rfl,rfl,rfl,rfl,rfl,rfl⟩:=heq
   have hfu:=HF.out.get j hj1
   have hfm:=HF.out.mem1 j hj1
   have hke:=HKD.out.even hj1
   obtain⟨u,hu⟩:∃u,u=ks[j]:=⟨_,rfl⟩
   have htk:ks.take (j+1)=ks.take j++[u]:=by rw [←List.take_append_getElem hj1,hu]
   have hNu:cnt u≤N:=by rw [hu];exact Nat.le_trans (cnts_get ks j hj1) hN
   rw [←hu]at hve g0 g1 g2 g3 g5 hfu hfm hke
   have kE:=(Keep.refl (fun _=>True) wr).alloc (.cells #[.int .i64 u.kind,.int .u64 (u.num:Int),.string ⟨u.text.toArray⟩,.slice A9 u.kids.length c9,.int .i64 o9,.slice A0 u.desc.length c10] 78)
   have HC:=Lib.hid (HI.out u hNu hfu _ _ (hve.keep kE))
   have HTK:=Lib.hid htk
   have HVE:=Lib.hid hve
   have HFM:=Lib.hid hfm
   have HKE:=Lib.hid hke
   clear hve hat hu htk hfu hfm hke
   go_wp2_with fail
   refine HC.out.mono ?_
   rintro e w2 ⟨bb,rfl,k2,hbb⟩
   have HBB:=Lib.hid hbb
   have K2:=Lib.hid ((kr.trans kE).trans k2)
   have hb2:=k2.blk (kE.blk HBR.out trivial) trivial
   have hk2:=k2.blk (blk_new wr (.cells #[.int .i64 u.kind,.int .u64 (u.num:Int),.string ⟨u.text.toArray⟩,.slice A9 u.kids.length c9,.int .i64 o9,.slice A0 u.desc.length c10] 78)) trivial
   have HB2:=Lib.hid hb2
   have HK2:=Lib.hid hk2
   have HVE2:=Lib.hid (HVE.out.keep (kE.trans k2))
   have z0:=(blk_cell hb2 0).trans rfl
   have y0:=(blk_cell hk2 0).trans rfl
   clear hbb hb2 hk2
   cases bb
   ·go_wp2
    go_ret
    exact Yes.no K2.out
   ·have HSU:=Lib.hid (HBB.out (by first | rfl | trivial))
    by_cases hpar:j % 2=1
    ·rw [hpar]at hq
     have HPAR:=Lib.hid hpar
     clear hpar
     go_wp2
     go_roundg kk
     case measure=>omega
     case rel=>exact⟨j+1,by omega,congrArg _ (by omega),K2.out,HB2.out,by rw [HTK.out];exact HALL.out.append HSU.out,HKD.out.odd HPAR.out⟩
    ·have hp0:j % 2=0:=by omega
     rw [hp0]at hq
     have HPAR:=Lib.hid hp0
     have hkk:=keyKind_is u.kind w2
     have HKK:=Lib.hid hkk
     clear hpar hp0 hkk
     go_wp2_with fail
     refine HKK.out.mono ?_
     rintro e w3 ⟨b3,rfl,k3,hb3⟩
     have HB3:=Lib.hid hb3
     have K3:=Lib.hid (K2.out.trans k3)
     have HBX3:=Lib.hid (k3.blk HB2.out trivial)
     have HKX3:=Lib.hid (k3.blk HK2.out trivial)
     have HVE3:=Lib.hid (HVE2.out.keep k3)
     clear hb3 k3 z0 y0 k2 kE
     cases b3
     ·go_wp2
      go_ret
      exact Yes.no K3.out
     ·have hkey:KeyK u.kind:=HB3.out (by first | rfl | trivial)
      have hlt:u.kind<21:=by unfold KeyK at hkey;omega
      have hku:u.kids=[]:=HFM.out.noKids hlt
      have hdu:u.desc=[]:=HSU.out.desc
      have HKEY:=Lib.hid hkey
      obtain⟨uk,un,ut,uks,uo,uds⟩:=u
      simp only [V.kids,V.desc]at hku hdu
      subst hku hdu
      simp only [V.kind,V.num,V.text,V.kids,V.desc,List.length_nil]at HBX3 HKX3 HVE3 HKE HKEY g0 g1 g2 g3 g5 ⊢
      clear hkey hlt
      obtain⟨wo,hwo⟩:∃wo:World,wo=wr:=⟨_,rfl⟩
      subst hwo
      go_wp2_with fail
      go_loopg [5] j (fun r s5 wq=>∃q:Nat,2*q+r=j∧s5=.int .i64 (2*(q:Int))∧New w wq∧wq.heap[w.heap.size]? =some (.cells #[.int .i64 22,.int .u64 (n:Int),.string ⟨t.toArray⟩,.slice (some ⟨d2,i2,none⟩) a c1,.int .i64 o,.slice A2 0 c2] 78 (0,0))∧wq.heap[wo.heap.size]? =some (.cells #[.int .i64 uk,.int .u64 (un:Int),.string ⟨ut.toArray⟩,.slice A9 0 c9,.int .i64 o9,.slice A0 0 c10] 78 (0,0))∧∀i (h:i<ks.length),i<2*q→i % 2=0→rk ks[i]≠rk (.mk uk un ut [] uo []))
      case atStart=>exact⟨0,by omega,rfl,K3.out,HBX3.out,HKX3.out,fun i h h0=>absurd h0 (by omega)⟩
      case round=>
       obtain⟨q,hq2,rfl,kq,hbq,hkq,hd⟩:=hrel
       have HDD:=Lib.hid hd
       have HBQ:=Lib.hid hbq
       have HKQ:=Lib.hid hkq
       clear hd hbq hkq
       by_cases hlt:2*q<j
       ·have tq:decide (2*(q:Int)<(j:Int))=true:=by simp;omega
        have hq1:2*q<ks.length:=by omega
        have e2:(2*(q:Int)).toNat=2*q:=by omega
        have tqa:2*(q:Int)<(a:Int):=by omega
        obtain⟨d3,i3,hAe,-,-,-,hat⟩:=(HK.out.keep kq).at2 (fun h=>by rw [h]at hj1;simp at hj1)
        cases hAe
        obtain⟨f0,f1,f2,f3,f4,f5,hvf,l0,l1,l2,l3,l4,l5⟩:=hat (2*q) hq1
        have hvm:=HF.out.mem1 (2*q) hq1
        have hvk:=HKD.out.1 (2*q) hq1 hlt (by omega)
        have hvd:(ks[2*q]'hq1).desc=[]:=by
         have:=HALL.out.get (2*q) (by rw [List.length_take];omega)
         rwa [List.getElem_take]at this
        have hdn:∀hne:rk ks[2*q]≠rk (.mk uk un ut [] uo []),∀i (h:i<ks.length),i<2*(q+1)→i % 2=0→rk ks[i]≠rk (.mk uk un ut [] uo []):=fun hne i h hi h2=>by
         rcases Nat.lt_or_ge i (2*q)with h1 | h1
         ·exact HDD.out i h h1 h2
         ·obtain rfl:i=2*q:=by omega
          exact hne
        obtain⟨v,hv⟩:∃v,v=ks[2*q]'hq1:=⟨_,rfl⟩
        rw [←hv]at hvf hvm hvk hvd hdn
        have hvkids:v.kids=[]:=hvm.noKids (by unfold KeyK at hvk;omega)
        obtain⟨vk,vn,vt,vks,vo,vds⟩:=v
        simp only [V.kids,V.desc]at hvkids hvd
        subst hvkids hvd
        have HDN:=Lib.hid hdn
        have hVF:=hvf
        obtain⟨B9,p9,p8,B0,p10,heq,-,hvo⟩:=hvf.parts'
        simp only [Value.agg.injEq,Array.mk.injEq,List.cons.injEq,and_true]at heq
        obtain⟨rfl,rfl,rfl,rfl,rfl,rfl⟩:=heq
        simp only [V.kind,V.num,V.text,V.kids,V.desc,V.of,List.length_nil]at l0 l1 l2 l3 l5 hVF hvo
        subst hvo
        have hro:o9=uo:=by
         obtain⟨sk',sd',he,-⟩:=HVE3.out.inv
         simp only [Value.agg.injEq,Array.mk.injEq,List.cons.injEq,Value.int.injEq,and_true,true_and]at he
         exact he.2.1
        subst hro
        obtain⟨bb,hbb⟩:∃bb,bb=sameV (.mk (rkK vk) vn vt [] p8 []) (.mk (rkK uk) un ut [] o9 []):=⟨_,rfl⟩
        have HVF:=Lib.hid hVF
        have HBB2:=Lib.hid hbb
        have z3:=(blk_cell HBQ.out 3).trans rfl
        have z3':=fun x os=>cell_regrown z3 x os
        have y0:=(blk_cell HKQ.out 0).trans rfl
        have y1:=(blk_cell HKQ.out 1).trans rfl
        have y2:=(blk_cell HKQ.out 2).trans rfl
        have y3:=(blk_cell HKQ.out 3).trans rfl
        have y4:=(blk_cell HKQ.out 4).trans rfl
        have y5:=(blk_cell HKQ.out 5).trans rfl
        have y0':=fun x os=>cell_regrown y0 x os
        have y1':=fun x os=>cell_regrown y1 x os
        have y2':=fun x os=>cell_regrown y2 x os
        have y3':=fun x os=>cell_regrown y3 x os
        have y4':=fun x os=>cell_regrown y4 x os
        have y5':=fun x os=>cell_regrown y5 x os
        have l0':=fun x os=>cell_regrown l0 x os
        have l1':=fun x os=>cell_regrown l1 x os
        have l2':=fun x os=>cell_regrown l2 x os
        have l3':=fun x os=>cell_regrown l3 x os
        have l4':=fun x os=>cell_regrown l4 x os
        have l5':=fun x os=>cell_regrown l5 x os
        have c1Q:=fun x os=>regrown_new (asRead_leaf vk vn vt p8 B9 B0 p9 p10 (grow (redrawn wr x) os))
        have c2Q:=fun x os=>regrown_new (asRead_leaf uk un ut o9 A9 A0 c9 c10 (grow (redrawn wr x) os))
        have c3Q:=fun x os=>regrown_new (v:=.bool bb) ((same_val _ _ _ (Nat.le_refl _) (grow (redrawn wr x) os) _ _ (HVF.out.asRead (grow (redrawn wr x) os)) (HVE3.out.asRead (grow (redrawn wr x) os))).mono fun e w' h=>⟨by rw [HBB2.out];exact h.1,h.2⟩)
        have hlt2:2*q+1<j:=by have:=HPAR.out;omega
        clear hVF hbb hat hvm hvk hdn hv hlt
        go_wp2_with fail
        refine wp_region_quiet_below (by kernel_rfl) (by kernel_rfl) ?_
        repeat (go_big_quiet_step (first | (with_reducible exact c1Q _ _) | (with_reducible exact c2Q _ _) | (with_reducible exact c3Q _ _)))
        refine wpQuiet_nil ?_
        intro _ hw'
        obtain⟨⟨dq,osq⟩,hw''⟩:=hw'
        subst hw''
        have kx:=new_regrown wr dq osq
        cases bb
        ·have hw2:IntKind.i64.wrap (2*(q:Int)+2)=2*(q:Int)+2:=IntWalk.i64_in _ ⟨by omega,by omega⟩
         go_wp2
         obtain⟨r,rfl⟩:∃r,gk=r+2:=⟨gk-2,by omega⟩
         go_roundg r
         case measure=>omega
         case rel=>exact⟨q+1,by omega,congrArg _ (by omega),kq.trans kx,kx.blk HBQ.out trivial,kx.blk HKQ.out trivial,HDN.out (sameV_rk HBB2.out.symm)⟩
        ·go_wp2
         go_ret
         exact Yes.no (kq.trans kx)
       ·have tq:decide (2*(q:Int)<(j:Int))=false:=by simp;omega
        have hqj:j=2*q:=by omega
        have HQJ:=Lib.hid (HKE.out HKEY.out (by rw [hqj];exact HDD.out))
        clear hlt hqj
        go_wp2
        go_roundg kk
        case measure=>omega
        case rel=>exact⟨j+1,by omega,congrArg _ (by omega),kq,HBQ.out,by rw [HTK.out];exact HALL.out.append HSU.out,HQJ.out⟩
theorem Yes.mono{p q:Prop}{f:FuncId}{args:Array Value}{w:World}(h:Calls Tryz.prog f args w (Yes p w))(hp:p→q):Calls Tryz.prog f args w (Yes q w):=
 h.mono fun _ _ ⟨b,he,hk,hb⟩=>⟨b,he,hk,fun h=>hp (hb h)⟩
theorem say_val(N:Nat):∀(v:V),cnt v≤N→FitL [v]→∀(w:World) (x:Value),VM w v x→Calls Tryz.prog 88 #[x] w (Yes (SayL [v]) w):=by
 induction N with
 | zero=>intro v h;cases v;simp only [cnt]at h;omega
 | succ N ih=>
   intro v hN hF w x hx
   obtain⟨k,n,t,ks,o,ds⟩:=v
   have hNk:cnts ks≤N:=by simp only [cnt]at hN;omega
   have hfk:FitL ks∧ks.length≤1000:=by
    cases hF with
    | cons h hk hd hs=>exact⟨hk,h.few⟩
   by_cases hd:ds=[]
   case neg=>exact say_desc k n t ks o ds hd _ w x hx
   subst hd
   by_cases hb:12≤k∧k≤15
   ·exact say_bad k (by omega) n t ks o _ w x hx
   by_cases h23:k=23
   ·subst h23
    exact Yes.mono (say_arr n t ks o w x hx) fun h=>.cons (by omega) (fun h=>absurd rfl h) (fun _=>h) (fun h=>absurd h (by omega)) .nil
   by_cases h22:k=22
   ·subst h22
    exact Yes.mono (say_map N ih n t ks hNk hfk.1 hfk.2 o w x hx) fun h=>.cons (by omega) (fun _=>h.1) (fun h=>absurd h (by omega)) (fun _ ps e=>by have:=h.2;rw [e]at this;exact this.mapOk) .nil
   ·exact Yes.mono (say_plain N ih k hb h22 h23 n t ks hNk hfk.1 o w x hx) fun h=>.cons hb (fun _=>h) (fun h=>absurd h h23) (fun h=>absurd h h22) .nil
theorem valueFits_is(v:V)(w:World)(VC:Vld w)(x:Value)(lv:Int)(h0:0≤lv)(h1:lv≤1000)(hx:VM w v x):Calls Tryz.prog 38 #[x,.int .i64 lv] w (Yes (FitL [v]∧cnt v≤2000) w):=by
 have HX:=Lib.hid hx
 obtain⟨A,c,o,A',c',rfl,-,-⟩:=hx.parts'
 have kA:=((Keep.refl (fun _=>True) w).alloc (.cells #[.int .i64 v.kind,.int .u64 (v.num:Int),.string ⟨v.text.toArray⟩,.slice A v.kids.length c,.int .i64 o,.slice A' v.desc.length c'] 78)).alloc (.cells #[.int .i64 2000] 3)
 have hp:=blk_new (w.alloc (.cells #[.int .i64 v.kind,.int .u64 (v.num:Int),.string ⟨v.text.toArray⟩,.slice A v.kids.length c,.int .i64 o,.slice A' v.desc.length c'] 78)) (.cells #[.int .i64 2000] 3)
 have hbx:=blk_alloc (blk_new w (.cells #[.int .i64 v.kind,.int .u64 (v.num:Int),.string ⟨v.text.toArray⟩,.slice A v.kids.length c,.int .i64 o,.slice A' v.desc.length c'] 78)) (.cells #[.int .i64 2000] 3)
 simp only [World.size_alloc]at hp
 have hcall:=few_val (cnt v) v (Nat.le_refl _) _ _ (w.heap.size+1) 2000 (hx.keep kA) hp (by omega)
 have HC:=Lib.hid hcall
 have HV:=Lib.hid VC
 have HBX:=Lib.hid hbx
 clear hx hp hcall VC hbx
 go_enter Tryz.func38,Tryz.ntmps38
 go_wp2_with fail
 refine HC.out.mono ?_
 rintro e w2 ⟨bb,rfl,k2,m',hm,hbb⟩
 have HBB:=Lib.hid hbb
 have k02:New w w2:=kA.then k2 (fun i hi _=>by show i≠w.heap.size+1;omega)
 have hb2:=k2.blk HBX.out (show w.heap.size≠w.heap.size+1 by omega)
 have z0:=(blk_cell hb2 0).trans rfl
 have z1:=(blk_cell hb2 1).trans rfl
 have z2:=(blk_cell hb2 2).trans rfl
 have z3:=(blk_cell hb2 3).trans rfl
 have z4:=(blk_cell hb2 4).trans rfl
 have z5:=(blk_cell hb2 5).trans rfl
 clear hbb hm hb2 k2
 cases bb
 ·go_wp2
  go_ret
  exact Yes.no k02
 ·have hf:=fits_val (cnt v) v (Nat.le_refl _) w2 (HV.out.new k02) _ lv h0 h1 (HX.out.keep k02)
  have HF:=Lib.hid hf
  clear hf
  go_wp2_with fail
  refine HF.out.mono ?_
  rintro e w3 ⟨b3,rfl,k3,hb3⟩
  have HB3:=Lib.hid hb3
  clear hb3
  go_wp2
  go_ret
  exact⟨b3,rfl,k02.trans k3,fun h=>⟨HB3.out h,by have:=HBB.out (by first | rfl | trivial);omega⟩⟩
theorem sayable_is(v:V)(w:World)(VC:Vld w)(x:Value)(hx:VM w v x):Calls Tryz.prog 67 #[x] w (Yes (FitL [v]∧SayL [v]∧cnt v≤300) w):=by
 have HX:=Lib.hid hx
 obtain⟨A,c,o,A',c',rfl,-,-⟩:=hx.parts'
 have kA:=(Keep.refl (fun _=>True) w).alloc (.cells #[.int .i64 v.kind,.int .u64 (v.num:Int),.string ⟨v.text.toArray⟩,.slice A v.kids.length c,.int .i64 o,.slice A' v.desc.length c'] 78)
 have hbx:=blk_new w (.cells #[.int .i64 v.kind,.int .u64 (v.num:Int),.string ⟨v.text.toArray⟩,.slice A v.kids.length c,.int .i64 o,.slice A' v.desc.length c'] 78)
 have HC:=Lib.hid (valueFits_is v _ (VC.new kA) _ 6 (by omega) (by omega) (hx.keep kA))
 have HBX:=Lib.hid hbx
 clear hx VC hbx
 go_enter Tryz.func67,Tryz.ntmps67
 go_wp2_with fail
 refine HC.out.mono ?_
 rintro e w2 ⟨bb,rfl,k2,hbb⟩
 have HBB:=Lib.hid hbb
 have k02:=kA.trans k2
 have hb2:=k2.blk HBX.out trivial
 have HB2:=Lib.hid hb2
 have z0:=(blk_cell hb2 0).trans rfl
 have z1:=(blk_cell hb2 1).trans rfl
 have z2:=(blk_cell hb2 2).trans rfl
 have z3:=(blk_cell hb2 3).trans rfl
 have z4:=(blk_cell hb2 4).trans rfl
 have z5:=(blk_cell hb2 5).trans rfl
 clear hbb hb2 k2
 cases bb
 ·go_wp2
  go_ret
  exact Yes.no k02
 ·obtain⟨hfit,hcn⟩:=HBB.out (by first | rfl | trivial)
  have HFIT:=Lib.hid hfit
  have hv:=values_val 2000 (by omega) v hcn w2 _ (HX.out.keep k02)
  obtain⟨m,hm⟩:∃m,m=cnt v:=⟨_,rfl⟩
  rw [←hm]at hv
  have HVL:=Lib.hid hv
  have HM:=Lib.hid hm
  clear hv hm hfit hcn
  go_wp2_with fail
  refine HVL.out.mono ?_
  rintro e w3 ⟨rfl,k3⟩
  have k03:=k02.trans k3
  have hb3:=k3.blk HB2.out trivial
  have z0:=(blk_cell hb3 0).trans rfl
  have z1:=(blk_cell hb3 1).trans rfl
  have z2:=(blk_cell hb3 2).trans rfl
  have z3:=(blk_cell hb3 3).trans rfl
  have z4:=(blk_cell hb3 4).trans rfl
  have z5:=(blk_cell hb3 5).trans rfl
  clear hb3 k3
  by_cases h300:m≤300
  ·have t3:decide (m≤300)=true:=by simpa using h300
   have t3':decide ((m:Int)≤300)=true:=by simp;omega
   have hs:=say_val (cnt v) v (Nat.le_refl _) HFIT.out w3 _ (HX.out.keep k03)
   have HS:=Lib.hid hs
   clear hs
   go_wp2_with fail
   refine HS.out.mono ?_
   rintro e w4 ⟨b4,rfl,k4,hb4⟩
   have HB4:=Lib.hid hb4
   clear hb4
   go_wp2
   go_ret
   exact⟨b4,rfl,k03.trans k4,fun h=>⟨HFIT.out,HB4.out h,by rw [←HM.out];exact h300⟩⟩
  ·have t3:decide (m≤300)=false:=by simp;omega
   have t3':decide ((m:Int)≤300)=false:=by simp;omega
   go_wp2
   go_ret
   exact Yes.no k03
theorem mapA_of{l:List V}{kk:Int}(hf:FitL [.mk 22 0 [] l 0 []])(hs:SayL [.mk 22 0 [] l 0 []])(hk:KeysK kk l)(hn:NSA [.mk 22 0 [] l 0 []]):MapA (fun k=>k=kk) l:=by
 have hA:=able_of hf hs
 have hev:l.length % 2=0:=by
  cases hf with
  | cons h _ _ _=>exact h.even rfl
 obtain⟨ps,rfl⟩:=flat2_of_even l hev
 refine MapA.of hA hn fun q hq=>?_
 obtain⟨i,hi,rfl⟩:=List.getElem_of_mem hq
 obtain⟨g1,-,g2,-⟩:=flat2_get ps i hi
 have:=hk (2*i) g1 (by omega)
 rwa [g2]at this
theorem mapAsked_is(kk:Int)(l:List V)(w:World)(VC:Vld w)(s:Value)(hs:LM w l s)(d:Nat)(hd:w.heap[d]? =some (.cells #[.int .i64 kk] 3 (0,0))):
 Calls Tryz.prog 45 #[s,.slice (some ⟨d,0,none⟩) 1 1] w (Yes (MapA (fun k=>k=kk) l) w):=by
 obtain⟨A,c,rfl,hc1,hc2⟩:=hs.shape
 obtain⟨a,ha⟩:∃a,a=l.length:=⟨_,rfl⟩
 rw [←ha]at hs ⊢
 have M:=Lib.hid ha
 have HS:=Lib.hid hs
 have HD:=Lib.hid hd
 have HV:=Lib.hid VC
 have kA:=(Keep.refl (fun _=>True) w).alloc (.cells #[.int .i64 22,.int .u64 0,.string ⟨#[]⟩,.slice A a c,.int .i64 0,.slice none 0 0] 78)
 have HBX:=Lib.hid (blk_new w (.cells #[.int .i64 22,.int .u64 0,.string ⟨#[]⟩,.slice A a c,.int .i64 0,.slice none 0 0] 78))
 clear ha hs hd VC hc1 hc2
 by_cases ha0:a=0
 ·subst ha0
  go_enter Tryz.func45,Tryz.ntmps45
  go_wp2
  go_ret
  refine⟨_,rfl,kA,fun _=>?_⟩
  have:l=[]:=List.eq_nil_of_length_eq_zero M.out.symm
  rw [this]
  exact MapA.nil _
 ·have ta:((a:Int)==0)=false:=by simp;omega
  have hv:∀W,New w W→VM W (.mk 22 0 [] l 0 []) (.agg #[.int .i64 22,.int .u64 0,.string ⟨#[]⟩,.slice A a c,.int .i64 0,.slice none 0 0]):=fun W k=>VM.mk (n:=0) (t:=[]) (by omega) (HS.out.keep k) LM.nil
  have HVM:=Lib.hid hv
  have HC:=Lib.hid (sayable_is _ _ (HV.out.new kA) _ (HVM.out _ kA))
  clear hv
  go_enter Tryz.func45,Tryz.ntmps45
  go_wp2_with fail
  refine HC.out.mono ?_
  rintro e w2 ⟨bb,rfl,k2,hbb⟩
  have HBB:=Lib.hid hbb
  have k02:=kA.trans k2
  have hb2:=k2.blk HBX.out trivial
  have HB2:=Lib.hid hb2
  have z0:=(blk_cell hb2 0).trans rfl
  have z1:=(blk_cell hb2 1).trans rfl
  have z2:=(blk_cell hb2 2).trans rfl
  have z3:=(blk_cell hb2 3).trans rfl
  have z4:=(blk_cell hb2 4).trans rfl
  have z5:=(blk_cell hb2 5).trans rfl
  clear hbb hb2 k2
  cases bb
  ·go_wp2
   go_ret
   exact Yes.no k02
  ·have HFS:=Lib.hid (HBB.out (by first | rfl | trivial))
   have hmx:l.length≤1000:=by
    have:=HFS.out.1
    cases this with
    | cons h _ _ _=>exact h.few
   have HK:=Lib.hid (keysOf_is 22 kk 0 [] l 0 [] w2 _ (HVM.out _ k02) hmx d (k02.blk HD.out trivial))
   clear hmx
   go_wp2_with fail
   refine HK.out.mono ?_
   rintro e w3 ⟨b3,rfl,k3,hb3⟩
   have HB3:=Lib.hid hb3
   have k03:=k02.trans k3
   have hb4:=k3.blk HB2.out trivial
   have z0:=(blk_cell hb4 0).trans rfl
   have z1:=(blk_cell hb4 1).trans rfl
   have z2:=(blk_cell hb4 2).trans rfl
   have z3:=(blk_cell hb4 3).trans rfl
   have z4:=(blk_cell hb4 4).trans rfl
   have z5:=(blk_cell hb4 5).trans rfl
   clear hb3 hb4 k3
   cases b3
   ·go_wp2
    go_ret
    exact Yes.no k03
   ·have HSA:=Lib.hid (sa_val _ _ (Nat.le_refl _) HFS.out.1 w3 _ (HVM.out _ k03))
    have HKK:=Lib.hid (HB3.out (by first | rfl | trivial))
    go_wp2_with fail
    refine HSA.out.mono ?_
    rintro e w4 ⟨b4,rfl,k4,hb4⟩
    have HB4:=Lib.hid hb4
    clear hb4
    cases b4
    ·go_wp2
     go_ret
     exact⟨_,rfl,k03.trans k4,fun _=>mapA_of HFS.out.1 HFS.out.2.1 HKK.out.2 (HB4.out (by first | rfl | trivial))⟩
    ·go_wp2
     go_ret
     exact Yes.no (k03.trans k4)
theorem askedFault_is(t0 t1:List UInt8)(l:List V)(w:World)(VC:Vld w)(s:Value)(hs:LM w l s):
 Calls Tryz.prog 17 #[.agg #[.string ⟨t0.toArray⟩,.string ⟨t1.toArray⟩,s]] w (Yes (MapA (fun k=>k=19) l) w):=by
 obtain⟨A,c,rfl,-,-⟩:=hs.shape
 obtain⟨a,ha⟩:∃a,a=l.length:=⟨_,rfl⟩
 rw [←ha]at hs ⊢
 have kA:=((Keep.refl (fun _=>True) w).alloc (.cells #[.string ⟨t0.toArray⟩,.string ⟨t1.toArray⟩,.slice A a c] 45)).alloc (.cells #[.int .i64 19] 3)
 have hd:=blk_new (w.alloc (.cells #[.string ⟨t0.toArray⟩,.string ⟨t1.toArray⟩,.slice A a c] 45)) (.cells #[.int .i64 19] 3)
 simp only [World.size_alloc]at hd
 have HC:=Lib.hid (mapAsked_is 19 l _ (VC.new kA) _ (hs.keep kA) _ hd)
 have k1:=(Keep.refl (fun _=>True) w).alloc (.cells #[.string ⟨t0.toArray⟩,.string ⟨t1.toArray⟩,.slice A a c] 45)
 clear ha hs VC hd
 rcases t0 with _ | ⟨x0,t0⟩
 ·go_enter Tryz.func17,Tryz.ntmps17
  go_wp2
  go_ret
  exact Yes.no k1
 ·go_enter Tryz.func17,Tryz.ntmps17
  go_wp2_with fail
  refine HC.out.mono ?_
  rintro e w2 ⟨bb,rfl,k2,hbb⟩
  have HBB:=Lib.hid hbb
  clear hbb
  go_wp2
  go_ret
  exact⟨bb,rfl,kA.trans k2,HBB.out⟩
theorem compFits_is(c:Nat)(hc:c<18446744073709551616)(fs:List (V×V))(hm:fs.length≤1000)(w:World)(VC:Vld w)(s:Value)(hs:FM w fs s):
 Calls Tryz.prog 12 #[.agg #[.int .u64 (c:Int),s]] w (Yes (FitL [.mk 21 0 [] (fs.map (·.1)) 0 [.mk 5 c [] [] 0 []]]∧cnt (.mk 21 0 [] (fs.map (·.1)) 0 [.mk 5 c [] [] 0 []])≤300) w):=by
 obtain⟨A,cc,rfl,-,-⟩:=hs.shape
 obtain⟨n,hn⟩:∃n,n=fs.length:=⟨_,rfl⟩
 have hm':=hm
 rw [←hn]at hs hm ⊢
 have M:=Lib.hid hn
 have kA:=(Keep.refl (fun _=>True) w).alloc (.cells #[.int .u64 (c:Int),.slice A n cc] 33)
 have HW:=Lib.hid (whole_is c hc fs hm' (w.alloc (.cells #[.int .u64 (c:Int),.slice A n cc] 33)) _ (hs.keep kA) n hn)
 have HV:=Lib.hid VC
 obtain⟨v,hv⟩:∃v,v=V.mk 21 0 [] (fs.map (·.1)) 0 [.mk 5 c [] [] 0 []]:=⟨_,rfl⟩
 rw [←hv]
 have HVE:=Lib.hid hv
 clear hs hm' hn VC hv
 go_enter Tryz.func12,Tryz.ntmps12
 go_wp2_with fail
 refine HW.out.mono ?_
 rintro e w1 ⟨sk,d,rfl,k1,⟨cells,hown,hmem⟩,hd1,hdb⟩
 obtain⟨Ag,cap,rfl⟩:=own_shape hown
 have k01:=kA.trans k1
 have hvm:VM w1 v (.agg #[.int .i64 21,.int .u64 0,.string ⟨#[]⟩,.slice Ag n cap,.int .i64 0,.slice (some ⟨d,0,none⟩) 1 1]):=by
  rw [HVE.out]
  refine VM.mk (n:=0) (t:=[]) (by omega) (LM.own (base:=d+2) (cells:=cells) (by rw [List.length_map,←M.out];exact hown) (hmem.keep k1)) ?_
  refine⟨_,⟨some ⟨d,0,none⟩,1,rfl,Nat.le_refl _,by unfold maxLen;omega,?_,fun _=>⟨d,0,rfl,fun q u hq=>?_⟩⟩,mem_plain w1 5 c [] hc⟩
  ·rfl
  ·rw [blk_cell hdb,Nat.zero_add]
   simpa using hq
 have kB:=(Keep.refl (fun _=>True) w1).alloc (.cells #[.int .i64 21,.int .u64 0,.string ⟨#[]⟩,.slice Ag n cap,.int .i64 0,.slice (some ⟨d,0,none⟩) 1 1] 78)
 have HBX:=Lib.hid (blk_new w1 (.cells #[.int .i64 21,.int .u64 0,.string ⟨#[]⟩,.slice Ag n cap,.int .i64 0,.slice (some ⟨d,0,none⟩) 1 1] 78))
 have HC:=Lib.hid (valueFits_is v _ (HV.out.new (k01.trans kB)) _ 8 (by omega) (by omega) (hvm.keep kB))
 have HVM:=Lib.hid (hvm.keep kB)
 have k0B:=k01.trans kB
 clear hown hmem hd1 hdb hvm
 go_wp2_with fail
 refine HC.out.mono ?_
 rintro e w2 ⟨bb,rfl,k2,hbb⟩
 have HBB:=Lib.hid hbb
 have k02:=k0B.trans k2
 have hb2:=k2.blk HBX.out trivial
 have z0:=(blk_cell hb2 0).trans rfl
 have z1:=(blk_cell hb2 1).trans rfl
 have z2:=(blk_cell hb2 2).trans rfl
 have z3:=(blk_cell hb2 3).trans rfl
 have z4:=(blk_cell hb2 4).trans rfl
 have z5:=(blk_cell hb2 5).trans rfl
 clear hbb hb2
 cases bb
 ·go_wp2
  go_ret
  exact Yes.no k02
 ·obtain⟨hfit,hcn⟩:=HBB.out (by first | rfl | trivial)
  have HFIT:=Lib.hid hfit
  have hvl:=values_val 2000 (by omega) v hcn w2 _ (HVM.out.keep k2)
  obtain⟨m,hm⟩:∃m,m=cnt v:=⟨_,rfl⟩
  rw [←hm]at hvl
  have HVL:=Lib.hid hvl
  have HM:=Lib.hid hm
  clear hvl hm hfit hcn k2
  go_wp2_with fail
  refine HVL.out.mono ?_
  rintro e w3 ⟨rfl,k3⟩
  go_wp2
  go_ret
  exact⟨_,rfl,k02.trans k3,fun h=>⟨HFIT.out,by have:=HM.out;simp at h;omega⟩⟩
end Go.Proofs.YtfoegolfadhmjaaGreatDoor
namespace Go.Proofs.YtfoegolfadhmjaaGreatDoor
open Go.RowKit Go.WideShapes Go.ChangeShapes
def fieldsOf:Option TypeDesc→Option (List (TypeId×Nat))
 | some (.struct fs)=>some (fs.toList.map fun f=>(f.type,f.offset))
 | _=>none
theorem under78:fieldsOf (Tryz.prog.underlying 78)=some [(3,0),(26,1),(9,2),(43,3),(3,4),(43,5)]:=by kernel_rfl
theorem cells78:Tryz.prog.cellsOf 78=6:=by kernel_rfl
section
variable {H:Type} {enc:TypeId×Value→H} {w:World} {sp:Nat→Bool} {held:Bool}
theorem trod_fields{t:TypeId}{L:List (TypeId×Nat)}(hu:fieldsOf (Tryz.prog.underlying t)=some L){fuel:Nat}{cs:List Value}{x:DataW H×List MemPlace}
 (h:DataW.trod enc Tryz.prog w 0 sp held fuel t cs=some x):∃n,fuel=n+1∧cs.length=Tryz.prog.cellsOf t∧∀(i:Nat) (q:TypeId×Nat),L[i]? =some q→∃y,DataW.trod enc Tryz.prog w 0 sp held n q.1 ((cs.drop q.2).take (Tryz.prog.cellsOf q.1))=some y:=by
 cases ht:Tryz.prog.underlying t with
 | none=>rw [ht]at hu;cases hu
 | some d=>
   rw [ht]at hu
   cases d with
   | struct fs=>
     simp only [fieldsOf,Option.some.injEq]at hu
     obtain⟨xs,n,hf,hx,hl,hsz,he⟩:=DataW.trod_struct ht h
     refine⟨n,hf,hl,fun i q hq=>?_⟩
     rw [←hu,List.getElem?_map]at hq
     cases hf':fs.toList[i]? with
     | none=>rw [hf']at hq;cases hq
     | some f=>
       rw [hf']at hq
       cases hq
       have hi:i<fs.size:=by have:=(List.getElem?_eq_some_iff.1 hf').1;simpa using this
       have h1:=he i f (by rw [←Array.getElem?_toList];exact hf')
       rw [List.getElem?_eq_getElem (show i<xs.length by omega)]at h1
       exact⟨_,h1⟩
   | _=>cases hu
theorem trod_int1{t:TypeId}{k:IntKind}(ht:Tryz.prog.underlying t=some (.int k)){fuel:Nat}{cs:List Value}{x:DataW H×List MemPlace}(h:DataW.trod enc Tryz.prog w 0 sp held fuel t cs=some x):∃n,cs=[.int k n]∧(Lit.int k n).wf=true:=by
 obtain⟨n,h1,_,h2⟩:=DataW.trod_int ht h
 exact⟨n,h1,h2⟩
theorem plain_add(d i q:Nat):(⟨d,i,none⟩:Addr).add q=⟨d,i+q,none⟩:=by unfold Addr.add;split<;>simp_all
theorem trod_both(fuel:Nat):(∀{cs:List Value} {x:DataW H×List MemPlace},DataW.trod enc Tryz.prog w 0 sp held fuel 78 cs=some x→∃v,Mem w [v] cs)∧
 (∀{c:Value} {x:DataW H×List MemPlace},DataW.trod enc Tryz.prog w 0 sp held fuel 43 [c]=some x→∃l cells,SlM w c l.length cells∧Mem w l cells):=by
 induction fuel with
 | zero=>exact⟨fun h=>by simp [DataW.trod]at h,fun h=>by simp [DataW.trod]at h⟩
 | succ n ih=>
   refine⟨fun {cs x} h=>?_,fun {c x} h=>?_⟩
   ·obtain⟨n',hn',hl,hf⟩:=trod_fields under78 h
    obtain rfl:n=n':=by omega
    rw [cells78]at hl
    obtain⟨y0,h0⟩:=hf 0 _ rfl
    obtain⟨y1,h1⟩:=hf 1 _ rfl
    obtain⟨y2,h2⟩:=hf 2 _ rfl
    obtain⟨y3,h3⟩:=hf 3 _ rfl
    obtain⟨y4,h4⟩:=hf 4 _ rfl
    obtain⟨y5,h5⟩:=hf 5 _ rfl
    match cs,hl with
    | [c0,c1,c2,c3,c4,c5],_=>
      rw [show Tryz.prog.cellsOf 3=1 by kernel_rfl]at h0 h4
      rw [show Tryz.prog.cellsOf 26=1 by kernel_rfl]at h1
      rw [show Tryz.prog.cellsOf 9=1 by kernel_rfl]at h2
      rw [show Tryz.prog.cellsOf 43=1 by kernel_rfl]at h3 h5
      simp only [List.drop_zero,List.drop_succ_cons,List.take_succ_cons,List.take_zero]at h0 h1 h2 h3 h4 h5
      obtain⟨k,e0,-⟩:=trod_int1 Tryz.underlying3 h0
      obtain⟨m,e1,hm⟩:=trod_int1 Tryz.underlying26 h1
      obtain⟨s,e2,-,-⟩:=DataW.trod_string Tryz.underlying9 h2
      obtain⟨ks,ck,hk1,hk2⟩:=ih.2 h3
      obtain⟨o,e4,-⟩:=trod_int1 Tryz.underlying3 h4
      obtain⟨ds,cd,hd1,hd2⟩:=ih.2 h5
      cases e0;cases e1;cases e2;cases e4
      have hm':0≤m∧m<18446744073709551616:=by
       simp only [Lit.wf,decide_eq_true_eq,Bool.and_eq_true]at hm
       have u1:IntKind.u64.min=0:=by decide
       have u2:IntKind.u64.max=18446744073709551615:=by decide
       omega
      obtain⟨m',rfl⟩:=Int.eq_ofNat_of_zero_le hm'.1
      refine⟨.mk k m' s.data.toList ks o ds,?_⟩
      have hs:(⟨s.data.toList.toArray⟩:ByteArray)=s:=by cases s;simp
      have:=Mem.cons (w:=w) (k:=k) (n:=m') (t:=s.data.toList) (o:=o) (by omega) hk1 hk2 hd1 hd2 .nil
      rw [hs]at this
      exact this
   ·rcases DataW.trod_slice Tryz.underlying43 h with⟨e,-⟩ | ⟨a,len,cap,elems,rest,n',hn',e,-,-,hl,hm,hlen,hel,-⟩
    ·cases e
     exact⟨[],[],slM_nil w,.nil⟩
    ·cases e
     obtain rfl:n=n':=by omega
     rw [cells78]at hel
     have key:∀j,j≤len→∃l cells,l.length=j∧cells.length=j*6∧Mem w l cells∧∀q,q<j*6→w.cell? (a.add q)=cells[q]? :=by
      intro j
      induction j with
      | zero=>intro _;exact⟨[],[],rfl,rfl,.nil,fun q hq=>absurd hq (by omega)⟩
      | succ j ihj=>
        intro hj
        obtain⟨l,cells,e1,e2,e3,e4⟩:=ihj (by omega)
        have hE:=hel j (by omega)
        rw [List.getElem?_eq_getElem (show j<elems.length by omega),Option.bind_eq_some_iff]at hE
        obtain⟨cj,hc,ht⟩:=hE
        obtain⟨-,hc1,hc2⟩:=World.cells?_some hc
        obtain⟨v,hv⟩:=ih.1 ht
        refine⟨l++[v],cells++cj,by simp [e1],by simp [e2,hc1];omega,e3.append hv,fun q hq=>?_⟩
        by_cases hlt:q<j*6
        ·rw [e4 q hlt,List.getElem?_append_left (by omega)]
        ·rw [List.getElem?_append_right (by omega),e2,←hc2 (q-j*6) (by omega)]
         congr 1
         unfold Addr.add
         by_cases h0:j*6=0
         ·simp [h0]
         ·have h1:q≠0:=by omega
          simp only [h0,h1,if_false]
          split<;>simp<;>omega
     obtain⟨l,cells,rfl,e2,e3,e4⟩:=key len (Nat.le_refl _)
     refine⟨l,cells,⟨some a,cap,rfl,hl,hm,e2,fun hne=>?_⟩,e3⟩
     have hs:a.spot=none:=by
      have h0:=e4 0 (by omega)
      rw [List.getElem?_eq_getElem (by omega)]at h0
      unfold World.cell? at h0
      have ha:a.add 0=a:=rfl
      rw [ha]at h0
      split at h0
      ·cases hsp:a.spot with
       | none=>rfl
       | some u=>rw [hsp]at h0;simp at h0
      ·cases h0
     obtain⟨d,i,s⟩:=a
     cases hs
     refine⟨d,i,rfl,fun q u hq=>?_⟩
     have hql:q<l.length*6:=by have:=(List.getElem?_eq_some_iff.1 hq).1;omega
     rw [←plain_add,e4 q hql]
     exact hq
end
end Go.Proofs.YtfoegolfadhmjaaGreatDoor
namespace Go.Proofs.YtfoegolfadhmjaaGreatDoor
open Go.RowKit Go.WideShapes Go.ChangeShapes Go.Lib
theorem vld_of{W:World}(h1:VarReads Tryz.prog W "unicode/utf8.first" firstData)(h2:VarReads Tryz.prog W "unicode/utf8.acceptRanges" acceptData):Vld W:=by
 have hT:Utf8Tabs 1 2 W:=Go.Proofs.utf8Tabs_of_readsT (U8Types.of196 Tryz.lays196) ⟨by kernel_rfl,by kernel_rfl,by kernel_rfl,by kernel_rfl,by kernel_rfl,by kernel_rfl,by kernel_rfl⟩ h1 h2
 intro w1 k t ht
 have hT1:Utf8Tabs 1 2 w1:=⟨fun c hc=>k.cell (hT.1 c hc) (cell_lt (hT.1 c hc)),fun i hi=>⟨k.cell (hT.2 i hi).1 (cell_lt (hT.2 i hi).1),k.cell (hT.2 i hi).2 (cell_lt (hT.2 i hi).2)⟩⟩
 refine(Tryz.valid_is ⟨t.toArray⟩ w1 (by show t.toArray.size≤_;simp;omega) hT1).mono ?_
 rintro e w' ⟨rfl,b⟩
 exact⟨by simp,Keep.of_below b⟩
section
variable {H:Type} {enc:TypeId×Value→H} {w:World} {sp:Nat→Bool} {held:Bool}
theorem trod_bytes{fuel:Nat}{c:Value}{x:DataW H×List MemPlace}(h:DataW.trod enc Tryz.prog w 0 sp held fuel 27 [c]=some x):∃l,SlC w c l:=by
 rcases DataW.trod_slice Tryz.underlying27 h with⟨e,-⟩ | ⟨a,len,cap,elems,rest,n',hn',e,-,-,hl,hm,hlen,hel,-⟩
 ·cases e
  exact⟨[],none,0,rfl,Nat.le_refl _,by omega,fun h=>absurd rfl h⟩
 ·cases e
  rw [show Tryz.prog.cellsOf 5=1 by kernel_rfl]at hel
  have key:∀j,j≤len→∃l:List UInt8,l.length=j∧∀q (hq:q<l.length),w.cell? (a.add q)=some (.int .u8 (l[q].toNat:Int)):=by
   intro j
   induction j with
   | zero=>intro _;exact⟨[],rfl,fun q hq=>absurd hq (by simp)⟩
   | succ j ih=>
     intro hj
     obtain⟨l,e1,e2⟩:=ih (by omega)
     have hE:=hel j (by omega)
     rw [List.getElem?_eq_getElem (show j<elems.length by omega),Option.bind_eq_some_iff]at hE
     obtain⟨cj,hc,ht⟩:=hE
     obtain⟨-,hc1,hc2⟩:=World.cells?_some hc
     obtain⟨z,rfl,hz⟩:=trod_int1 Tryz.underlying5 ht
     have hz':0≤z∧z<256:=by
      simp only [Lit.wf,decide_eq_true_eq,Bool.and_eq_true]at hz
      have u1:IntKind.u8.min=0:=by decide
      have u2:IntKind.u8.max=255:=by decide
      omega
     obtain⟨m,rfl⟩:=Int.eq_ofNat_of_zero_le hz'.1
     refine⟨l++[UInt8.ofNat m],by simp [e1],fun q hq=>?_⟩
     rw [List.length_append,List.length_singleton]at hq
     by_cases hlt:q<l.length
     ·rw [e2 q hlt,List.getElem_append_left hlt]
     ·obtain rfl:q=l.length:=by omega
      have h0:=hc2 0 (by omega)
      rw [Nat.mul_one]at h0
      have ha:((a.add j).add 0)=a.add j:=rfl
      rw [ha,←e1]at h0
      have h1:(l++[UInt8.ofNat m])[l.length]'(by simp)=UInt8.ofNat m:=by simp
      have h2:(UInt8.ofNat m).toNat=m:=by simp;omega
      rw [h1,h2,h0]
      rfl
  obtain⟨l,rfl,e2⟩:=key len (Nat.le_refl _)
  refine⟨l,some a,cap,rfl,hl,by unfold maxLen at hm;omega,fun hne=>?_⟩
  have hs:a.spot=none:=by
   have h0:=e2 0 (List.length_pos_iff.2 hne)
   unfold World.cell? at h0
   have ha:a.add 0=a:=rfl
   rw [ha]at h0
   split at h0
   ·cases hsp:a.spot with
    | none=>rfl
    | some u=>rw [hsp]at h0;simp at h0
   ·cases h0
  obtain⟨d,i,s⟩:=a
  cases hs
  exact⟨d,i,rfl,fun q hq=>by rw [←plain_add];exact e2 q hq⟩
theorem trod_text{fuel:Nat}{c:Value}{x:DataW H×List MemPlace}(h:DataW.trod enc Tryz.prog w 0 sp held fuel 9 [c]=some x):∃t:List UInt8,c=.string ⟨t.toArray⟩:=by
 obtain⟨s,e,-,-⟩:=DataW.trod_string Tryz.underlying9 h
 cases e
 exact⟨s.data.toList,by cases s;simp⟩
theorem under45:fieldsOf (Tryz.prog.underlying 45)=some [(9,0),(9,1),(43,2)]:=by kernel_rfl
theorem trod_fault{fuel:Nat}{cs:List Value}{x:DataW H×List MemPlace}(h:DataW.trod enc Tryz.prog w 0 sp held fuel 45 cs=some x):∃(t0 t1:List UInt8) (l:List V) (s:Value),cs=[.string ⟨t0.toArray⟩,.string ⟨t1.toArray⟩,s]∧LM w l s:=by
 obtain⟨n,rfl,hl,hf⟩:=trod_fields under45 h
 rw [show Tryz.prog.cellsOf 45=3 by kernel_rfl]at hl
 obtain⟨y0,h0⟩:=hf 0 _ rfl
 obtain⟨y1,h1⟩:=hf 1 _ rfl
 obtain⟨y2,h2⟩:=hf 2 _ rfl
 match cs,hl with
 | [c0,c1,c2],_=>
   rw [show Tryz.prog.cellsOf 9=1 by kernel_rfl]at h0 h1
   rw [show Tryz.prog.cellsOf 43=1 by kernel_rfl]at h2
   simp only [List.drop_zero,List.drop_succ_cons,List.take_succ_cons,List.take_zero]at h0 h1 h2
   obtain⟨t0,rfl⟩:=trod_text h0
   obtain⟨t1,rfl⟩:=trod_text h1
   obtain⟨l,cells,q1,q2⟩:=(trod_both n).2 h2
   exact⟨t0,t1,l,c2,rfl,cells,q1,q2⟩
end
end Go.Proofs.YtfoegolfadhmjaaGreatDoor
