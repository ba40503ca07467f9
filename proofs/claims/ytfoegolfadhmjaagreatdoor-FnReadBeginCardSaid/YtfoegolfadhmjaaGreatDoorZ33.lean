/- spec.AsRead at plain values; spec.ValueFits; laws.zzFits4. -/
import Derived.Test.YtfoegolfadhmjaaGreatDoorZ31
import Derived.Test.YtfoegolfadhmjaaGreatDoorZ32
set_option linter.all false
set_option maxRecDepth 100000
set_option maxHeartbeats 8000000
namespace Go.Proofs.YtfoegolfadhmjaaGreatDoor
open Go.RowKit Go.WideShapes Go.Sort
def No(p:Prop)(w:World)(e:Ending)(w':World):Prop:=∃b,e=.returned (.bool b)∧New w w'∧(b=false→p)
theorem No.yes{p:Prop}{w w':World}(k:New w w'):No p w (.returned (.bool true)) w':=⟨true,rfl,k,fun h=>by cases h⟩
theorem FitL.get{l:List V}(h:FitL l):∀j (hj:j<l.length),FitL [l[j]]:=by
 induction h with
 | nil=>intro j hj;simp at hj
 | cons h hk hd hs _ _ ih=>
   intro j hj
   cases j with
   | zero=>exact .cons h hk hd .nil
   | succ j=>exact ih j (by simpa using hj)
theorem NSA.append{l m:List V}(h:NSA l)(k:NSA m):NSA (l++m):=by
 induction h with
 | nil=>exact k
 | cons h hk hs _ ih=>exact .cons h hk ih
theorem sa_val(N:Nat):∀(v:V),cnt v≤N→FitL [v]→∀(w:World) (x:Value),VM w v x→Calls Tryz.prog 69 #[x] w (No (NSA [v]) w):=by
 induction N with
 | zero=>intro v h;cases v;simp only [cnt]at h;omega
 | succ N ih=>
   intro v hN hF w x hx
   obtain⟨k,n,t,ks,o,ds⟩:=v
   obtain⟨sk,sd,rfl,hn,hks,hds⟩:=hx.inv
   obtain⟨A1,c1,rfl,hl1,hl1'⟩:=hks.shape
   obtain⟨A2,c2,rfl,hl2,hl2'⟩:=hds.shape
   have hml:ks.length≤maxLen:=by omega
   unfold maxLen at hml
   have hNk:cnts ks≤N:=by simp only [cnt]at hN;omega
   have hfk:FitL ks∧(k=23→∀v∈ks,∀u∈ks,v.kind=u.kind∧v.desc.length=u.desc.length):=by
    cases hF with
    | cons h hk hd hs=>exact⟨hk,h.arr⟩
   have IH:=Lib.hid ih
   have HF:=Lib.hid hfk
   clear hl1 hl1' hl2 hl2' hx hN hF ih hfk
   obtain⟨a,ha⟩:∃a,a=ks.length:=⟨_,rfl⟩
   obtain⟨b,hb⟩:∃b,b=ds.length:=⟨_,rfl⟩
   rw [←ha]at hml hks ⊢
   rw [←hb]at hds ⊢
   have M1:=Lib.hid ha
   have HK:=Lib.hid hks
   have hbox:=blk_new w (.cells #[.int .i64 k,.int .u64 (n:Int),.string ⟨t.toArray⟩,.slice A1 a c1,.int .i64 o,.slice A2 b c2] 78)
   have kA:=(Keep.refl (fun _=>True) w).alloc (.cells #[.int .i64 k,.int .u64 (n:Int),.string ⟨t.toArray⟩,.slice A1 a c1,.int .i64 o,.slice A2 b c2] 78)
   have HBX:=Lib.hid hbox
   clear ha hb hks hds hbox
   have main:(k=23→∀v∈ks,v.kind≠20)→(k=23→0<a→∃d i c0,A1=some ⟨d,i,none⟩∧w.cell? ⟨d,i,none⟩=some (.int .i64 c0)∧c0≠20)→Calls Tryz.prog 69 #[.agg #[.int .i64 k,.int .u64 (n:Int),.string ⟨t.toArray⟩,.slice A1 a c1,.int .i64 o,.slice A2 b c2]] w (No (NSA [.mk k n t ks o ds]) w):=by
    intro h20 hfirst
    have H20:=Lib.hid h20
    have loop:∀(Q:Prop),True:=fun _=>trivial
    by_cases h23:k=23
    ·have t23:(k==23)=true:=by simpa using h23
     by_cases ha0:0<a
     ·obtain⟨d0,i0,c0,rfl,hc0,hc20⟩:=hfirst h23 ha0
      have hc0':=cell_alloc hc0 (.cells #[.int .i64 k,.int .u64 (n:Int),.string ⟨t.toArray⟩,.slice (some ⟨d0,i0,none⟩) a c1,.int .i64 o,.slice A2 b c2] 78)
      have tc:(c0==20)=false:=by simpa using hc20
      have ta:decide (0<a)=true:=by simpa using ha0
      have ta':decide ((0:Int)<(a:Int))=true:=by simp;omega
      clear hfirst h20 h23 hc0 hc20 loop
      go_enter Tryz.func69,Tryz.ntmps69
      go_wp2_with fail
      go_loopg [25] a (fun kk s25 wr=>∃j:Nat,j+kk=a∧s25=.int .i64 (j:Int)∧New w wr∧NSA (ks.take j))
      case atStart=>exact⟨0,by omega,rfl,(Keep.refl _ w).alloc _,by rw [List.take_zero];exact .nil⟩
      case round=>
       obtain⟨j,hj,rfl,kr,hall⟩:=hrel
       have HALL:=Lib.hid hall
       clear hall
       rcases gk with _ | kk
       ·obtain rfl:a=j:=by omega
        go_wp2
        go_ret
        exact⟨false,rfl,kr,fun _=>.cons H20.out (by have:=HALL.out;rwa [M1.out,List.take_length]at this) .nil⟩
       ·have hjn:j<a:=by omega
        have tj:decide (j<a)=true:=by simpa using hjn
        have hj1:j<ks.length:=by rw [←M1.out];exact hjn
        obtain⟨d2,i2,hAe,-,-,-,hat⟩:=(HK.out.keep kr).at2 (fun h=>by rw [h]at hj1;simp at hj1)
        cases hAe
        obtain⟨e0,e1,e2,e3,e4,e5,hve,g0,g1,g2,g3,g4,g5⟩:=hat j hj1
        obtain⟨A9,c9,o9,A0,c10,heq,-,-⟩:=hve.parts'
        simp only [Value.agg.injEq,Array.mk.injEq,List.cons.injEq,and_true]at heq
        obtain⟨rfl,rfl,rfl,rfl,rfl,rfl⟩:=heq
        have hfu:=HF.out.1.get j hj1
        obtain⟨u,hu⟩:∃u,u=ks[j]:=⟨_,rfl⟩
        have htk:ks.take (j+1)=ks.take j++[u]:=by rw [←List.take_append_getElem hj1,hu]
        have hNu:cnt u≤N:=by rw [hu];exact Nat.le_trans (cnts_get ks j hj1) hNk
        rw [←hu]at hve g0 g1 g2 g3 g5 hfu
        have kE:=(Keep.refl (fun _=>True) wr).alloc (.cells #[.int .i64 u.kind,.int .u64 (u.num:Int),.string ⟨u.text.toArray⟩,.slice A9 u.kids.length c9,.int .i64 o9,.slice A0 u.desc.length c10] 78)
        have HC:=Lib.hid (IH.out u hNu hfu _ _ (hve.keep kE))
        have HTK:=Lib.hid htk
        clear hve hat hu htk hfu
        go_wp2_with fail
        refine HC.out.mono ?_
        rintro e w2 ⟨bb,rfl,k2,hbb⟩
        have HBB:=Lib.hid hbb
        have K2:=Lib.hid ((kr.trans kE).trans k2)
        clear hbb
        cases bb
        ·go_wp2
         go_roundg kk
         case measure=>omega
         case rel=>exact⟨j+1,by omega,congrArg _ (by omega),K2.out,by rw [HTK.out];exact HALL.out.append (HBB.out (by first | rfl | trivial))⟩
        ·go_wp2
         go_ret
         exact No.yes K2.out
     ·obtain rfl:a=0:=by omega
      clear hfirst h20 h23 ha0 loop
      go_enter Tryz.func69,Tryz.ntmps69
      go_wp2_with fail
      go_loopg [25] 0 (fun kk s25 wr=>∃j:Nat,j+kk=0∧s25=.int .i64 (j:Int)∧New w wr∧NSA (ks.take j))
      case atStart=>exact⟨0,by omega,rfl,(Keep.refl _ w).alloc _,by rw [List.take_zero];exact .nil⟩
      case round=>
       obtain⟨j,hj,rfl,kr,hall⟩:=hrel
       have HALL:=Lib.hid hall
       clear hall
       rcases gk with _ | kk
       ·obtain rfl:0=j:=by omega
        go_wp2
        go_ret
        exact⟨false,rfl,kr,fun _=>.cons H20.out (by have:=HALL.out;rwa [M1.out,List.take_length]at this) .nil⟩
       ·omega
    ·have t23:(k==23)=false:=by simpa using h23
     clear hfirst h20 h23 loop
     go_enter Tryz.func69,Tryz.ntmps69
     go_wp2_with fail
     go_loopg [25] a (fun kk s25 wr=>∃j:Nat,j+kk=a∧s25=.int .i64 (j:Int)∧New w wr∧NSA (ks.take j))
     case atStart=>exact⟨0,by omega,rfl,(Keep.refl _ w).alloc _,by rw [List.take_zero];exact .nil⟩
     case round=>
      obtain⟨j,hj,rfl,kr,hall⟩:=hrel
      have HALL:=Lib.hid hall
      clear hall
      rcases gk with _ | kk
      ·obtain rfl:a=j:=by omega
       go_wp2
       go_ret
       exact⟨false,rfl,kr,fun _=>.cons H20.out (by have:=HALL.out;rwa [M1.out,List.take_length]at this) .nil⟩
      ·have hjn:j<a:=by omega
       have tj:decide (j<a)=true:=by simpa using hjn
       have hj1:j<ks.length:=by rw [←M1.out];exact hjn
       obtain⟨d2,i2,hAe,-,-,-,hat⟩:=(HK.out.keep kr).at2 (fun h=>by rw [h]at hj1;simp at hj1)
       cases hAe
       obtain⟨e0,e1,e2,e3,e4,e5,hve,g0,g1,g2,g3,g4,g5⟩:=hat j hj1
       obtain⟨A9,c9,o9,A0,c10,heq,-,-⟩:=hve.parts'
       simp only [Value.agg.injEq,Array.mk.injEq,List.cons.injEq,and_true]at heq
       obtain⟨rfl,rfl,rfl,rfl,rfl,rfl⟩:=heq
       have hfu:=HF.out.1.get j hj1
       obtain⟨u,hu⟩:∃u,u=ks[j]:=⟨_,rfl⟩
       have htk:ks.take (j+1)=ks.take j++[u]:=by rw [←List.take_append_getElem hj1,hu]
       have hNu:cnt u≤N:=by rw [hu];exact Nat.le_trans (cnts_get ks j hj1) hNk
       rw [←hu]at hve g0 g1 g2 g3 g5 hfu
       have kE:=(Keep.refl (fun _=>True) wr).alloc (.cells #[.int .i64 u.kind,.int .u64 (u.num:Int),.string ⟨u.text.toArray⟩,.slice A9 u.kids.length c9,.int .i64 o9,.slice A0 u.desc.length c10] 78)
       have HC:=Lib.hid (IH.out u hNu hfu _ _ (hve.keep kE))
       have HTK:=Lib.hid htk
       clear hve hat hu htk hfu
       go_wp2_with fail
       refine HC.out.mono ?_
       rintro e w2 ⟨bb,rfl,k2,hbb⟩
       have HBB:=Lib.hid hbb
       have K2:=Lib.hid ((kr.trans kE).trans k2)
       clear hbb
       cases bb
       ·go_wp2
        go_roundg kk
        case measure=>omega
        case rel=>exact⟨j+1,by omega,congrArg _ (by omega),K2.out,by rw [HTK.out];exact HALL.out.append (HBB.out (by first | rfl | trivial))⟩
       ·go_wp2
        go_ret
        exact No.yes K2.out
   by_cases h23:k=23
   ·by_cases ha0:0<a
    ·have hj0:0<ks.length:=by rw [←M1.out];exact ha0
     obtain⟨d,i,hAe,-,-,-,hat⟩:=HK.out.at2 (fun h=>by rw [h]at hj0;simp at hj0)
     cases hAe
     obtain⟨e0,e1,e2,e3,e4,e5,hve,g0,-⟩:=hat 0 hj0
     obtain⟨A9,c9,o9,A0,c0,heq,-,-⟩:=hve.parts'
     simp only [Value.agg.injEq,Array.mk.injEq,List.cons.injEq,and_true]at heq
     obtain⟨rfl,rfl,rfl,rfl,rfl,rfl⟩:=heq
     simp only [Nat.zero_mul,Nat.add_zero]at g0
     by_cases h20:ks[0].kind=20
     ·rw [h20]at g0
      have g0':=cell_alloc g0 (.cells #[.int .i64 k,.int .u64 (n:Int),.string ⟨t.toArray⟩,.slice (some ⟨d,i,none⟩) a c1,.int .i64 o,.slice A2 b c2] 78)
      have t23:(k==23)=true:=by simpa using h23
      have ta:decide (0<a)=true:=by simpa using ha0
      have ta':decide ((0:Int)<(a:Int))=true:=by simp;omega
      clear hve hat g0 h23 main
      go_enter Tryz.func69,Tryz.ntmps69
      go_wp2
      go_ret
      exact No.yes ((Keep.refl _ w).alloc _)
     ·refine main (fun e v hv=>?_) (fun _ _=>⟨d,i,_,rfl,g0,h20⟩)
      rw [(HF.out.2 e v hv ks[0] (List.getElem_mem hj0)).1]
      exact h20
    ·refine main (fun e v hv=>?_) (fun _ h=>absurd h ha0)
     have:ks=[]:=List.eq_nil_of_length_eq_zero (by rw [←M1.out];omega)
     rw [this]at hv
     cases hv
   ·exact main (fun e=>absurd e h23) (fun e=>absurd e h23)
theorem in_is(n kk:Int)(d:Nat)(w:World)(hd:w.heap[d]? =some (.cells #[.int .i64 kk] 3 (0,0))):
 Calls Tryz.prog 89 #[.int .i64 n,.slice (some ⟨d,0,none⟩) 1 1] w fun e w'=>e=.returned (.bool (n==kk))∧w=w':=by
 have c0:=(blk_cell hd 0).trans rfl
 have c0:w.cell? ⟨d,0,none⟩=some (.int .i64 kk):=c0
 clear hd
 by_cases h:n=kk
 ·have t1:(n==kk)=true:=by simpa using h
  have t1':(kk==n)=true:=by simpa using h.symm
  rw [t1]
  clear h
  go_enter Tryz.func89,Tryz.ntmps89
  go_wp2_with fail
  go_loopg [9] 1 (fun r s9 wr=>∃j:Nat,j+r=1∧j=0∧s9=.int .i64 (j:Int)∧wr=w)
  case atStart=>exact⟨0,by omega,rfl,rfl,rfl⟩
  case round=>
   obtain⟨j,hj,rfl,rfl,rfl⟩:=hrel
   go_wp2
   go_ret
   exact⟨rfl,rfl⟩
 ·have t1:(n==kk)=false:=by simpa using h
  have t1':(kk==n)=false:=by simpa using fun e=>h e.symm
  rw [t1]
  clear h
  go_enter Tryz.func89,Tryz.ntmps89
  go_wp2_with fail
  go_loopg [9] 1 (fun r s9 wr=>∃j:Nat,j+r=1∧s9=.int .i64 (j:Int)∧wr=w)
  case atStart=>exact⟨0,by omega,rfl,rfl⟩
  case round=>
   obtain⟨j,hj,rfl,rfl⟩:=hrel
   rcases j with _ | j
   ·obtain rfl:gk=1:=by omega
    go_wp2
    go_roundg 0
    case measure=>omega
    case rel=>exact⟨1,rfl,rfl,rfl⟩
   ·obtain rfl:j=0:=by omega
    go_wp2
    go_ret
    exact⟨rfl,rfl⟩
def KeysK(kk:Int)(ks:List V):Prop:=∀j (h:j<ks.length),j % 2=0→ks[j].kind=kk
theorem keysOf_is(k kk:Int)(n:Nat)(t:List UInt8)(ks:List V)(o:Int)(ds:List V)(w:World)(x:Value)(hx:VM w (.mk k n t ks o ds) x)(hmx:ks.length≤1000)(d:Nat)(hd:w.heap[d]? =some (.cells #[.int .i64 kk] 3 (0,0))):
 Calls Tryz.prog 68 #[x,.slice (some ⟨d,0,none⟩) 1 1] w (Yes (k=22∧KeysK kk ks) w):=by
 obtain⟨sk,sd,rfl,hn,hks,hds⟩:=hx.inv
 obtain⟨A1,c1,rfl,hl1,hl1'⟩:=hks.shape
 obtain⟨A2,c2,rfl,hl2,hl2'⟩:=hds.shape
 have hml:=hmx
 clear hl1 hl1' hl2 hl2' hx hmx
 obtain⟨a,ha⟩:∃a,a=ks.length:=⟨_,rfl⟩
 obtain⟨b,hb⟩:∃b,b=ds.length:=⟨_,rfl⟩
 rw [←ha]at hml hks ⊢
 rw [←hb]
 have M1:=Lib.hid ha
 have HK:=Lib.hid hks
 have HD:=Lib.hid hd
 have kA:=(Keep.refl (fun _=>True) w).alloc (.cells #[.int .i64 k,.int .u64 (n:Int),.string ⟨t.toArray⟩,.slice A1 a c1,.int .i64 o,.slice A2 b c2] 78)
 have HBX:=Lib.hid (blk_new w (.cells #[.int .i64 k,.int .u64 (n:Int),.string ⟨t.toArray⟩,.slice A1 a c1,.int .i64 o,.slice A2 b c2] 78))
 clear ha hb hks hds hd
 go_enter Tryz.func68,Tryz.ntmps68
 go_wp2_with fail
 go_loopg [5] (a+1) (fun r s5 wr=>∃j:Nat,2*j+r=a+1∧s5=.int .i64 (2*(j:Int))∧New w wr∧wr.heap[w.heap.size]? =some (.cells #[.int .i64 k,.int .u64 (n:Int),.string ⟨t.toArray⟩,.slice A1 a c1,.int .i64 o,.slice A2 b c2] 78 (0,0))∧∀q (h:q<ks.length),q<2*j→q % 2=0→ks[q].kind=kk)
 case atStart=>exact⟨0,by omega,rfl,kA,HBX.out,fun q h h0=>absurd h0 (by omega)⟩
 case round=>
  obtain⟨j,hj,rfl,kr,hb,hall⟩:=hrel
  have HALL:=Lib.hid hall
  have HBR:=Lib.hid hb
  have z0:=(blk_cell hb 0).trans rfl
  have z3:=(blk_cell hb 3).trans rfl
  clear hall hb
  by_cases hjn:2*j<a
  ·have tj:decide (2*(j:Int)<(a:Int))=true:=by simp;omega
   have hj1:2*j<ks.length:=by rw [←M1.out];exact hjn
   have e2:(2*(j:Int)).toNat=2*j:=by omega
   have hw:2*(j:Int)<(a:Int):=by omega
   obtain⟨d2,i2,hAe,-,-,-,hat⟩:=(HK.out.keep kr).at2 (fun h=>by rw [h]at hj1;simp at hj1)
   cases hAe
   obtain⟨e0,e1,e2',e3,e4,e5,hve,g0,-⟩:=hat (2*j) hj1
   obtain⟨A9,c9,o9,A0,c10,heq,-,-⟩:=hve.parts'
   simp only [Value.agg.injEq,Array.mk.injEq,List.cons.injEq,and_true]at heq
   obtain⟨rfl,rfl,rfl,rfl,rfl,rfl⟩:=heq
   obtain⟨u,hu⟩:∃u,u=(ks[2*j]'hj1).kind:=⟨_,rfl⟩
   rw [←hu]at g0
   have HU:=Lib.hid hu
   have hin:=in_is u kk d wr (kr.blk HD.out trivial)
   have HIN:=Lib.hid hin
   clear hve hat hu hin hjn
   by_cases huk:u=kk
   ·have tu:(u==kk)=true:=by simpa using huk
    have HUK:=Lib.hid huk
    rw [tu]at HIN
    clear huk
    go_wp2_with fail
    refine HIN.out.mono ?_
    rintro e w2 ⟨rfl,rfl⟩
    go_wp2
    obtain⟨r,rfl⟩:∃r,gk=r+2:=⟨gk-2,by omega⟩
    go_roundg r
    case measure=>omega
    case rel=>
     refine⟨j+1,by omega,congrArg _ (by omega),kr,HBR.out,fun q h hq h2=>?_⟩
     rcases Nat.lt_or_ge q (2*j)with h1 | h1
     ·exact HALL.out q h h1 h2
     ·obtain rfl:q=2*j:=by omega
      exact HU.out.symm.trans HUK.out
   ·have tu:(u==kk)=false:=by simpa using huk
    rw [tu]at HIN
    clear huk
    go_wp2_with fail
    refine HIN.out.mono ?_
    rintro e w2 ⟨rfl,rfl⟩
    go_wp2
    go_ret
    exact Yes.no kr
  ·have tj:decide (2*(j:Int)<(a:Int))=false:=by simp;omega
   have HA:=Lib.hid (show KeysK kk ks from fun q h h2=>HALL.out q h (by have:=M1.out;omega) h2)
   clear hjn
   go_wp2
   go_ret
   exact⟨_,rfl,kr,fun h=>⟨by simpa using h,HA.out⟩⟩
def rkK(k:Int):Int:=if k=20 then 19 else k
theorem asRead_leaf(k:Int)(n:Nat)(t:List UInt8)(o:Int)(A1 A2:Option Addr)(c1 c2:Nat)(w:World):
 Calls Tryz.prog 145 #[.agg #[.int .i64 k,.int .u64 (n:Int),.string ⟨t.toArray⟩,.slice A1 0 c1,.int .i64 o,.slice A2 0 c2]] w fun e w'=>e=.returned (.agg #[.int .i64 (rkK k),.int .u64 (n:Int),.string ⟨t.toArray⟩,.slice none 0 0,.int .i64 o,.slice A2 0 c2])∧New w w':=by
 by_cases hk:k=20
 ·subst hk
  have hr:rkK 20=19:=rfl
  rw [hr]
  clear hr
  go_enter Tryz.func145,Tryz.ntmps145
  go_wp2_with fail
  go_loopg [15] 0 (fun kk s15 wr=>kk=0∧s15=.int .i64 0∧New w wr∧wr.heap[w.heap.size+1]? =some (.cells #[.int .i64 0,.int .u64 0,.string ⟨#[]⟩,.slice none 0 0,.int .i64 0,.slice none 0 0] 78 (0,0))∧wr.heap[w.heap.size+2]? =some (.cells #[.int .i64 19,.int .u64 (n:Int),.string ⟨t.toArray⟩,.slice none 0 0,.int .i64 o,.slice A2 0 c2] 78 (0,0)))
  case atStart=>
   refine⟨rfl,rfl,(((Keep.refl _ w).alloc _).alloc _).alloc _,?_,?_⟩
   ·exact blk_alloc (by simpa using blk_new (w.alloc (.cells #[.int .i64 20,.int .u64 (n:Int),.string ⟨t.toArray⟩,.slice A1 0 c1,.int .i64 o,.slice A2 0 c2] 78)) (.cells #[.int .i64 0,.int .u64 0,.string ⟨#[]⟩,.slice none 0 0,.int .i64 0,.slice none 0 0] 78)) _
   ·simpa using blk_new ((w.alloc (.cells #[.int .i64 20,.int .u64 (n:Int),.string ⟨t.toArray⟩,.slice A1 0 c1,.int .i64 o,.slice A2 0 c2] 78)).alloc (.cells #[.int .i64 0,.int .u64 0,.string ⟨#[]⟩,.slice none 0 0,.int .i64 0,.slice none 0 0] 78)) (.cells #[.int .i64 19,.int .u64 (n:Int),.string ⟨t.toArray⟩,.slice none 0 0,.int .i64 o,.slice A2 0 c2] 78)
  case round=>
   obtain⟨rfl,rfl,kr,h1,h2⟩:=hrel
   have x0:=(blk_cell h1 0).trans rfl
   have x1:=(blk_cell h1 1).trans rfl
   have x2:=(blk_cell h1 2).trans rfl
   have x3:=(blk_cell h1 3).trans rfl
   have x4:=(blk_cell h1 4).trans rfl
   have x5:=(blk_cell h1 5).trans rfl
   have f0:=blk_free h1 0
   have f1:=blk_free h1 1
   have f2:=blk_free h1 2
   have f3:=blk_free h1 3
   have f4:=blk_free h1 4
   have f5:=blk_free h1 5
   have y0:=(blk_cell h2 0).trans rfl
   have y1:=(blk_cell h2 1).trans rfl
   have y2:=(blk_cell h2 2).trans rfl
   have y3:=(blk_cell h2 3).trans rfl
   have y4:=(blk_cell h2 4).trans rfl
   have y5:=(blk_cell h2 5).trans rfl
   clear h1 h2
   go_wp2
   refine bodyPost_ret (v:=.agg #[.int .i64 19,.int .u64 (n:Int),.string ⟨t.toArray⟩,.slice none 0 0,.int .i64 o,.slice A2 0 c2]) (by simp [results,Tryz.results145,go_sem,x0,x1,x2,x3,x4,x5]) rfl ⟨rfl,?_⟩
   repeat (refine Keep.setCell ?_ (Or.inl (b:=¬True) (Nat.le_succ _)) _)
   exact kr
 ·have hr:rkK k=k:=if_neg hk
  have t20:(k==20)=false:=by simpa using hk
  rw [hr]
  clear hk hr
  go_enter Tryz.func145,Tryz.ntmps145
  go_wp2_with fail
  go_loopg [15] 0 (fun kk s15 wr=>kk=0∧s15=.int .i64 0∧New w wr∧wr.heap[w.heap.size+1]? =some (.cells #[.int .i64 0,.int .u64 0,.string ⟨#[]⟩,.slice none 0 0,.int .i64 0,.slice none 0 0] 78 (0,0))∧wr.heap[w.heap.size+2]? =some (.cells #[.int .i64 k,.int .u64 (n:Int),.string ⟨t.toArray⟩,.slice none 0 0,.int .i64 o,.slice A2 0 c2] 78 (0,0)))
  case atStart=>
   refine⟨rfl,rfl,(((Keep.refl _ w).alloc _).alloc _).alloc _,?_,?_⟩
   ·exact blk_alloc (by simpa using blk_new (w.alloc (.cells #[.int .i64 k,.int .u64 (n:Int),.string ⟨t.toArray⟩,.slice A1 0 c1,.int .i64 o,.slice A2 0 c2] 78)) (.cells #[.int .i64 0,.int .u64 0,.string ⟨#[]⟩,.slice none 0 0,.int .i64 0,.slice none 0 0] 78)) _
   ·simpa using blk_new ((w.alloc (.cells #[.int .i64 k,.int .u64 (n:Int),.string ⟨t.toArray⟩,.slice A1 0 c1,.int .i64 o,.slice A2 0 c2] 78)).alloc (.cells #[.int .i64 0,.int .u64 0,.string ⟨#[]⟩,.slice none 0 0,.int .i64 0,.slice none 0 0] 78)) (.cells #[.int .i64 k,.int .u64 (n:Int),.string ⟨t.toArray⟩,.slice none 0 0,.int .i64 o,.slice A2 0 c2] 78)
  case round=>
   obtain⟨rfl,rfl,kr,h1,h2⟩:=hrel
   have x0:=(blk_cell h1 0).trans rfl
   have x1:=(blk_cell h1 1).trans rfl
   have x2:=(blk_cell h1 2).trans rfl
   have x3:=(blk_cell h1 3).trans rfl
   have x4:=(blk_cell h1 4).trans rfl
   have x5:=(blk_cell h1 5).trans rfl
   have f0:=blk_free h1 0
   have f1:=blk_free h1 1
   have f2:=blk_free h1 2
   have f3:=blk_free h1 3
   have f4:=blk_free h1 4
   have f5:=blk_free h1 5
   have y0:=(blk_cell h2 0).trans rfl
   have y1:=(blk_cell h2 1).trans rfl
   have y2:=(blk_cell h2 2).trans rfl
   have y3:=(blk_cell h2 3).trans rfl
   have y4:=(blk_cell h2 4).trans rfl
   have y5:=(blk_cell h2 5).trans rfl
   clear h1 h2
   go_wp2
   refine bodyPost_ret (v:=.agg #[.int .i64 k,.int .u64 (n:Int),.string ⟨t.toArray⟩,.slice none 0 0,.int .i64 o,.slice A2 0 c2]) (by simp [results,Tryz.results145,go_sem,x0,x1,x2,x3,x4,x5]) rfl ⟨rfl,?_⟩
   repeat (refine Keep.setCell ?_ (Or.inl (b:=¬True) (Nat.le_succ _)) _)
   exact kr
theorem VM.asRead{w:World}{k:Int}{n:Nat}{t:List UInt8}{o:Int}{A1 A2:Option Addr}{c1 c2:Nat}(h:VM w (.mk k n t [] o []) (.agg #[.int .i64 k,.int .u64 (n:Int),.string ⟨t.toArray⟩,.slice A1 0 c1,.int .i64 o,.slice A2 0 c2]))(W:World):
 VM W (.mk (rkK k) n t [] o []) (.agg #[.int .i64 (rkK k),.int .u64 (n:Int),.string ⟨t.toArray⟩,.slice none 0 0,.int .i64 o,.slice A2 0 c2]):=by
 obtain⟨sk,sd,he,hn,hk,hd⟩:=h.inv
 simp only [Value.agg.injEq,Array.mk.injEq,List.cons.injEq,and_true,true_and]at he
 obtain⟨rfl,rfl⟩:=he
 exact VM.mk hn LM.nil hd.empty
theorem sameV_rk{k k':Int}{n n':Nat}{t t':List UInt8}{o o':Int}(h:sameV (.mk (rkK k) n t [] o []) (.mk (rkK k') n' t' [] o' [])=false):rk (.mk k n t [] o [])≠rk (.mk k' n' t' [] o' []):=by
 intro e
 simp only [rk,V.kind,V.num,V.text,Prod.mk.injEq]at e
 obtain⟨e1,e2,e3⟩:=e
 have e1':rkK k=rkK k':=e1
 rw [e1',e2,e3]at h
 simp [sameV,sameVs,sameD]at h
def KeysD(ks:List V)(j:Nat):Prop:=(∀i (h:i<ks.length),i<j→i % 2=0→KeyK ks[i].kind)∧∀i i' (h:i<ks.length) (h':i'<ks.length),i<i'→i'<j→i % 2=0→i' % 2=0→rk ks[i]≠rk ks[i']
theorem KeysD.mapOk{ps:List (V×V)}(h:KeysD (flat2 ps) (flat2 ps).length):MapOk ps:=by
 obtain⟨h1,h2⟩:=h
 refine⟨fun q hq=>?_,?_⟩
 ·obtain⟨i,hi,rfl⟩:=List.getElem_of_mem hq
  obtain⟨g1,-,g2,-⟩:=flat2_get ps i hi
  have:=h1 (2*i) g1 g1 (by omega)
  rwa [g2]at this
 ·rw [List.Nodup,List.pairwise_iff_getElem]
  intro i j hi hj hij
  rw [List.length_map]at hi hj
  obtain⟨g1,-,g2,-⟩:=flat2_get ps i hi
  obtain⟨g3,-,g4,-⟩:=flat2_get ps j hj
  have:=h2 (2*i) (2*j) g1 g3 (by omega) g3 (by omega) (by omega)
  rw [g2,g4]at this
  simpa using this
theorem KeysD.odd{ks:List V}{j:Nat}(h:KeysD ks j)(hj:j % 2=1):KeysD ks (j+1):=
 ⟨fun i hi hlt h2=>h.1 i hi (by omega) h2,fun i i' hi hi' hlt hlt' h2 h2'=>h.2 i i' hi hi' hlt (by omega) h2 h2'⟩
theorem KeysD.even{ks:List V}{j:Nat}(h:KeysD ks j)(hj:j<ks.length)(hk:KeyK ks[j].kind)(hd:∀i (h:i<ks.length),i<j→i % 2=0→rk ks[i]≠rk ks[j]):KeysD ks (j+1):=by
 refine⟨fun i hi hlt h2=>?_,fun i i' hi hi' hlt hlt' h2 h2'=>?_⟩
 ·rcases Nat.lt_or_ge i j with h1 | h1
  ·exact h.1 i hi h1 h2
  ·obtain rfl:i=j:=by omega
   exact hk
 ·rcases Nat.lt_or_ge i' j with h1 | h1
  ·exact h.2 i i' hi hi' hlt h1 h2 h2'
  ·obtain rfl:i'=j:=by omega
   exact hd i hi hlt h2
theorem SayL.append{l m:List V}(h:SayL l)(k:SayL m):SayL (l++m):=by
 induction h with
 | nil=>exact k
 | cons h1 h2 h3 h4 hs _ ih=>exact .cons h1 h2 h3 h4 ih
end Go.Proofs.YtfoegolfadhmjaaGreatDoor
