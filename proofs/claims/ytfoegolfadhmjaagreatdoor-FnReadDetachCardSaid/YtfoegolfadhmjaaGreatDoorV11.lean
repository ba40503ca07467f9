/- spec.contentFits. spec.SymbolArrays, in, KeysOf. spec.in, spec.KeysOf. spec.ArrayAsked. -/
import Derived.Test.YtfoegolfadhmjaaGreatDoorU06
import Derived.Test.YtfoegolfadhmjaaGreatDoorU08
import Derived.Test.YtfoegolfadhmjaaGreatDoorU10
import Derived.Lib.EndianBits
set_option linter.unusedVariables false
set_option linter.unusedSimpArgs false
set_option maxRecDepth 100000
set_option maxHeartbeats 40000000
set_option linter.all false
namespace Go.Proofs.YtfoegolfadhmjaaGreatDoor
open Go.RowKit Go.WideShapes Go.Sort
theorem ufit_1{n:Nat}(hn:n<18446744073709551616)(h:(IntKind.u64.wrap ((n:Int)*72057594037927936)/72057594037927936 !=(n:Int))=false):n<256:=by
 rw [IntKind.wrap_u64]at h
 simp at h
 omega
theorem sfit_1{n:Nat}(hn:n<18446744073709551616)(h:(IntKind.u64.wrap (wrap64 (IntKind.u64.wrap ((n:Int)*72057594037927936))/72057594037927936) !=(n:Int))=false):Fits 8 n:=by
 simp only [IntKind.wrap_u64]at h
 simp only [bne_eq_false_iff_eq]at h
 refine⟨hn,?_,?_⟩<;>(unfold sgn;unfold wrap64 at *;omega)
theorem ufit_2{n:Nat}(hn:n<18446744073709551616)(h:(IntKind.u64.wrap ((n:Int)*281474976710656)/281474976710656 !=(n:Int))=false):n<65536:=by
 rw [IntKind.wrap_u64]at h
 simp at h
 omega
theorem sfit_2{n:Nat}(hn:n<18446744073709551616)(h:(IntKind.u64.wrap (wrap64 (IntKind.u64.wrap ((n:Int)*281474976710656))/281474976710656) !=(n:Int))=false):Fits 16 n:=by
 simp only [IntKind.wrap_u64]at h
 simp only [bne_eq_false_iff_eq]at h
 refine⟨hn,?_,?_⟩<;>(unfold sgn;unfold wrap64 at *;omega)
theorem ufit_4{n:Nat}(hn:n<18446744073709551616)(h:(IntKind.u64.wrap ((n:Int)*4294967296)/4294967296 !=(n:Int))=false):n<4294967296:=by
 rw [IntKind.wrap_u64]at h
 simp at h
 omega
theorem sfit_4{n:Nat}(hn:n<18446744073709551616)(h:(IntKind.u64.wrap (wrap64 (IntKind.u64.wrap ((n:Int)*4294967296))/4294967296) !=(n:Int))=false):Fits 32 n:=by
 simp only [IntKind.wrap_u64]at h
 simp only [bne_eq_false_iff_eq]at h
 refine⟨hn,?_,?_⟩<;>(unfold sgn;unfold wrap64 at *;omega)
theorem ascii_valid{t:List UInt8}(h:∀x∈t,x.toNat<128):Lib.validD t=true:=by
 rw [Lib.validD_ascii t.length t (fun b hb=>h b (List.mem_of_mem_take hb)),List.drop_length]
 rfl
def Pass(lv k:Int)(n:Nat)(t:List UInt8)(a b:Nat):Prop:=
 0<lv∧0≤k∧k<24∧(k<21→a=0)∧(¬(17≤k∧k≤20∨k=14)→t=[])∧(¬(1≤k∧k≤16∧k≠14)→n=0)∧b≤1∧a≤1000∧t.length≤131072
def Cont(k:Int)(n:Nat)(t:List UInt8)(ks:List V):Prop:=
 (k=1→n≤1)∧(k=2→n<256)∧(k=3→n<65536)∧(k=4∨k=10→n<4294967296)∧(k=6→Fits 8 n)∧(k=7→Fits 16 n)∧(k=8→Fits 32 n)∧(k=17→t.length=16)∧(k=19∨k=20→Lib.validD t=true)∧(k=22→ks.length % 2=0)∧(k=23→AlikeA ks)
theorem FitL.append{l m:List V}(h:FitL l)(k:FitL m):FitL (l++m):=by
 induction h with
 | nil=>exact k
 | cons h hk hd hs _ _ ih=>exact .cons h hk hd ih
theorem fitC_of{lv k:Int}{n:Nat}{t:List UInt8}{ks ds:List V}(h:Pass lv k n t ks.length ds.length)(hn:n<18446744073709551616)(hc:Cont k n t ks):FitC k n t ks ds:=by
 obtain⟨-,h1,h2,h3,h4,h5,h6,h7,h8⟩:=h
 obtain⟨c1,c2,c3,c4,c5,c6,c7,c8,c9,c10,c11⟩:=hc
 exact⟨h1,h2,fun h=>List.eq_nil_of_length_eq_zero (h3 h),h4,h5,h7,h8,hn,c1,c2,c3,c4,c5,c6,c7,c8,c10,fun h=>c11 h,h6,c9⟩
theorem fixed_tab:fixedV 0=-1∧fixedV 1=-1∧fixedV 2=1∧fixedV 3=2∧fixedV 4=4∧fixedV 5=8∧fixedV 6=1∧fixedV 7=2∧fixedV 8=4∧fixedV 9=8∧fixedV 10=4∧fixedV 11=8∧fixedV 12=4∧fixedV 13=8∧fixedV 14=16∧fixedV 15=4∧fixedV 16=8∧fixedV 17=16∧fixedV 18=-1∧fixedV 19=-1∧fixedV 20=-1∧fixedV 21=-1∧fixedV 22=-1∧fixedV 23=-1:=by decide
theorem content_is(k:Int)(hk:0≤k∧k<24)(n:Nat)(t:List UInt8)(ks:List V)(o:Int)(ds:List V)(ht:t.length≤131072)(w:World)(VC:Vld w)(x:Value)(hx:VM w (.mk k n t ks o ds) x):Calls Tryz.prog 87 #[x] w (Yes (Cont k n t ks) w):=by
 have hx0:=hx
 obtain⟨sk,sd,rfl,hn,hks,hds⟩:=hx.inv
 obtain⟨A1,c1,rfl,hm1,hm2⟩:=hks.shape
 obtain⟨A2,c2,rfl,_,_⟩:=hds.shape
 have hml:ks.length≤maxLen:=by omega
 unfold maxLen at hml
 obtain⟨m,hm⟩:∃m,m=ks.length:=⟨_,rfl⟩
 obtain⟨b2,hb2⟩:∃b,b=ds.length:=⟨_,rfl⟩
 rw [←hm]at hx0 hml ⊢
 rw [←hb2]at hx0 ⊢
 have HX:=Lib.hid hx0
 have HV:=Lib.hid VC
 have M:=Lib.hid hm
 have kA:=(Keep.refl (fun _=>True) w).alloc (.cells #[.int .i64 k,.int .u64 (n:Int),.string ⟨t.toArray⟩,.slice A1 m c1,.int .i64 o,.slice A2 b2 c2] 78)
 have hfx:=fixed_is k (w.alloc (.cells #[.int .i64 k,.int .u64 (n:Int),.string ⟨t.toArray⟩,.slice A1 m c1,.int .i64 o,.slice A2 b2 c2] 78))
 have hbx:=blk_new w (.cells #[.int .i64 k,.int .u64 (n:Int),.string ⟨t.toArray⟩,.slice A1 m c1,.int .i64 o,.slice A2 b2 c2] 78)
 clear hx hx0 hks hds hm hb2 VC hm1 hm2
 obtain⟨v0,hv0⟩:∃v,v=fixedV k:=⟨_,rfl⟩
 rw [←hv0]at hfx
 have FX:=Lib.hid hfx
 clear hfx
 have hcs:(k=2∨k=3∨k=4∨k=5∨k=10∨k=11∨k=12∨k=13∨k=15∨k=16)∨(k=6∨k=7∨k=8∨k=9)∨k=0∨k=1∨k=14∨k=17∨k=18∨k=19∨k=20∨k=21∨k=22∨k=23:=by omega
 rcases hcs with hcs | hcs | hcs
 ·rcases hcs with rfl | rfl | rfl | rfl | rfl | rfl | rfl | rfl | rfl | rfl
  all_goals simp only [fixed_tab]at hv0
  all_goals subst hv0
  all_goals
   go_enter Tryz.func87,Tryz.ntmps87
   go_wp2_with fail
   refine FX.out.mono ?_
   rintro e w1 ⟨rfl,k1⟩
   have kr:=kA.trans k1
   have hb:=k1.blk hbx trivial
   have z0:=(blk_cell hb 0).trans rfl
   have z0':=fun q os=>cell_regrown z0 q os
   have z1:=(blk_cell hb 1).trans rfl
   have z1':=fun q os=>cell_regrown z1 q os
   have z4:=(blk_cell hb 4).trans rfl
   have z4':=fun q os=>cell_regrown z4 q os
   clear hb hbx FX
   go_wp2_with fail
   refine wp_region_quiet_below (by kernel_rfl) (by kernel_rfl) ?_
   repeat (go_big_quiet_step (fail))
   refine wpQuiet_nil ?_
   intro _ hw'
   obtain⟨⟨dq,osq⟩,hw''⟩:=hw'
   subst hw''
   have kr4:=kr.trans (new_regrown w1 dq osq)
   go_wp2
   all_goals go_ret
   all_goals first | (refine⟨_,rfl,kr4,fun h=>⟨?_,?_,?_,?_,?_,?_,?_,?_,?_,?_,?_⟩⟩<;>intro e<;>first | exact absurd e (by decide) | (with_reducible exact ufit_1 hn (by assumption)) | (with_reducible exact ufit_2 hn (by assumption)) | (with_reducible exact ufit_4 hn (by assumption))) | exact Yes.no kr4
 ·rcases hcs with rfl | rfl | rfl | rfl
  all_goals simp only [fixed_tab]at hv0
  all_goals subst hv0
  obtain⟨B,hB⟩:∃B,(IntKind.u64.wrap (wrap64 (IntKind.u64.wrap ((n:Int)*72057594037927936))/72057594037927936) !=(n:Int))=B:=⟨_,rfl⟩
  rotate_left
  obtain⟨B,hB⟩:∃B,(IntKind.u64.wrap (wrap64 (IntKind.u64.wrap ((n:Int)*281474976710656))/281474976710656) !=(n:Int))=B:=⟨_,rfl⟩
  rotate_left
  obtain⟨B,hB⟩:∃B,(IntKind.u64.wrap (wrap64 (IntKind.u64.wrap ((n:Int)*4294967296))/4294967296) !=(n:Int))=B:=⟨_,rfl⟩
  rotate_left
  obtain⟨B,hB⟩:∃B,(IntKind.u64.wrap (wrap64 (n:Int)) !=(n:Int))=B:=⟨_,rfl⟩
  rotate_left
  all_goals
   have HB:=Lib.hid hB
   cases B
  all_goals
   have hb0:=HB.out
   go_enter Tryz.func87,Tryz.ntmps87
   go_wp2_with fail
   refine FX.out.mono ?_
   rintro e w1 ⟨rfl,k1⟩
   have kr:=kA.trans k1
   have hb:=k1.blk hbx trivial
   have z0:=(blk_cell hb 0).trans rfl
   have z0':=fun q os=>cell_regrown z0 q os
   have z1:=(blk_cell hb 1).trans rfl
   have z1':=fun q os=>cell_regrown z1 q os
   have z4:=(blk_cell hb 4).trans rfl
   have z4':=fun q os=>cell_regrown z4 q os
   clear hb hbx FX
   go_wp2_with fail
   refine wp_region_quiet_below (by kernel_rfl) (by kernel_rfl) ?_
   repeat (go_big_quiet_step (fail))
   refine wpQuiet_nil ?_
   intro _ hw'
   obtain⟨⟨dq,osq⟩,hw''⟩:=hw'
   subst hw''
   have kr4:=kr.trans (new_regrown w1 dq osq)
   go_wp2
   all_goals go_ret
   all_goals first | (refine⟨_,rfl,kr4,fun h=>⟨?_,?_,?_,?_,?_,?_,?_,?_,?_,?_,?_⟩⟩<;>intro e<;>first | exact absurd e (by decide) | (with_reducible exact sfit_1 hn (by assumption)) | (with_reducible exact sfit_2 hn (by assumption)) | (with_reducible exact sfit_4 hn (by assumption))) | exact Yes.no kr4
 ·rcases hcs with rfl | rfl | rfl | rfl | rfl | rfl | rfl | rfl | rfl | rfl
  all_goals simp only [fixed_tab]at hv0
  all_goals subst hv0
  all_goals
   go_enter Tryz.func87,Tryz.ntmps87
   go_wp2_with fail
   refine FX.out.mono ?_
   rintro e w1 ⟨rfl,k1⟩
   have kr:=kA.trans k1
   have hb:=k1.blk hbx trivial
   have z0:=(blk_cell hb 0).trans rfl
   have z1:=(blk_cell hb 1).trans rfl
   have z2:=(blk_cell hb 2).trans rfl
   have z3:=(blk_cell hb 3).trans rfl
   have z4:=(blk_cell hb 4).trans rfl
   have z5:=(blk_cell hb 5).trans rfl
   clear hb hbx FX
   have hq:((m:Int)).tmod 2=((m % 2:Nat):Int):=by rw [Int.tmod_eq_emod_of_nonneg (by omega)];omega
   go_wp2_with fail
   first
    | refine((HV.out.new kr) w1 (Keep.refl _ _) t (by omega)).mono ?_
      rintro e w2 ⟨rfl,k2⟩
      go_wp2
      go_ret
      exact⟨_,rfl,kr.trans k2,fun h=>by refine⟨?_,?_,?_,?_,?_,?_,?_,?_,?_,?_,?_⟩<;>intro e<;>first | exact absurd e (by decide) | exact h⟩
    | refine(ascii_is t (by omega) w1).mono ?_
      rintro e w2 ⟨b,rfl,k2,hbb⟩
      go_wp2
      go_ret
      exact⟨_,rfl,kr.trans k2,fun h=>by refine⟨?_,?_,?_,?_,?_,?_,?_,?_,?_,?_,?_⟩<;>intro e<;>first | exact absurd e (by decide) | exact ascii_valid (hbb h)⟩
    | refine(arrFits_is 23 n t ks o ds w1 _ (HX.out.keep kr)).mono ?_
      rintro e w2 ⟨b,rfl,k2,hbb⟩
      go_wp2
      go_ret
      exact⟨_,rfl,kr.trans k2,fun h=>by refine⟨?_,?_,?_,?_,?_,?_,?_,?_,?_,?_,?_⟩<;>intro e<;>first | exact absurd e (by decide) | exact hbb h⟩
    | go_wp2
      all_goals go_ret
      all_goals first | exact Yes.no kr | exact⟨_,rfl,kr,fun h=>by refine⟨?_,?_,?_,?_,?_,?_,?_,?_,?_,?_,?_⟩<;>intro e<;>first | exact absurd e (by decide) | exact h | (simp at h;have hmm:=M.out;first | exact h | omega)⟩
def No(p:Prop)(w:World)(e:Ending)(w':World):Prop:=∃b,e=.returned (.bool b)∧New w w'∧(b=false→p)
theorem No.yes{p:Prop}{w w':World}(k:New w w'):No p w (.returned (.bool true)) w':=⟨true,rfl,k,fun h=>by cases h⟩
theorem FitL.get{l:List V}(h:FitL l):∀j (hj:j<l.length),FitL [l[j]]:=by
 induction h with
 | nil=>intro j hj;simp at hj
 | cons h hk hd hs _ _ ih=>
   intro j hj
   cases j with
   | zero=>exact .cons h hk hd .nil
   | succ j=>exact ih j (by simpa using hj)
theorem NSA.append{l m:List V}(h:NSA l)(k:NSA m):NSA (l++m):=by
 induction h with
 | nil=>exact k
 | cons h hk hs _ ih=>exact .cons h hk ih
theorem sa_val(N:Nat):∀(v:V),cnt v≤N→FitL [v]→∀(w:World) (x:Value),VM w v x→Calls Tryz.prog 69 #[x] w (No (NSA [v]) w):=by
 induction N with
 | zero=>intro v h;cases v;simp only [cnt]at h;omega
 | succ N ih=>
   intro v hN hF w x hx
   obtain⟨k,n,t,ks,o,ds⟩:=v
   obtain⟨sk,sd,rfl,hn,hks,hds⟩:=hx.inv
   obtain⟨A1,c1,rfl,hl1,hl1'⟩:=hks.shape
   obtain⟨A2,c2,rfl,hl2,hl2'⟩:=hds.shape
   have hml:ks.length≤maxLen:=by omega
   unfold maxLen at hml
   have hNk:cnts ks≤N:=by simp only [cnt]at hN;omega
   have hfk:FitL ks∧(k=23→∀v∈ks,∀u∈ks,v.kind=u.kind∧v.desc.length=u.desc.length):=by
    cases hF with
    | cons h hk hd hs=>exact⟨hk,h.arr⟩
   have IH:=Lib.hid ih
   have HF:=Lib.hid hfk
   clear hl1 hl1' hl2 hl2' hx hN hF ih hfk
   obtain⟨a,ha⟩:∃a,a=ks.length:=⟨_,rfl⟩
   obtain⟨b,hb⟩:∃b,b=ds.length:=⟨_,rfl⟩
   rw [←ha]at hml hks ⊢
   rw [←hb]at hds ⊢
   have M1:=Lib.hid ha
   have HK:=Lib.hid hks
   have hbox:=blk_new w (.cells #[.int .i64 k,.int .u64 (n:Int),.string ⟨t.toArray⟩,.slice A1 a c1,.int .i64 o,.slice A2 b c2] 78)
   have kA:=(Keep.refl (fun _=>True) w).alloc (.cells #[.int .i64 k,.int .u64 (n:Int),.string ⟨t.toArray⟩,.slice A1 a c1,.int .i64 o,.slice A2 b c2] 78)
   have HBX:=Lib.hid hbox
   clear ha hb hks hds hbox
   have main:(k=23→∀v∈ks,v.kind≠20)→(k=23→0<a→∃d i c0,A1=some ⟨d,i,none⟩∧w.cell? ⟨d,i,none⟩=some (.int .i64 c0)∧c0≠20)→Calls Tryz.prog 69 #[.agg #[.int .i64 k,.int .u64 (n:Int),.string ⟨t.toArray⟩,.slice A1 a c1,.int .i64 o,.slice A2 b c2]] w (No (NSA [.mk k n t ks o ds]) w):=by
    intro h20 hfirst
    have H20:=Lib.hid h20
    have loop:∀(Q:Prop),True:=fun _=>trivial
    by_cases h23:k=23
    ·have t23:(k==23)=true:=by simpa using h23
     by_cases ha0:0<a
     ·obtain⟨d0,i0,c0,rfl,hc0,hc20⟩:=hfirst h23 ha0
      have hc0':=cell_alloc hc0 (.cells #[.int .i64 k,.int .u64 (n:Int),.string ⟨t.toArray⟩,.slice (some ⟨d0,i0,none⟩) a c1,.int .i64 o,.slice A2 b c2] 78)
      have tc:(c0==20)=false:=by simpa using hc20
      have ta:decide (0<a)=true:=by simpa using ha0
      have ta':decide ((0:Int)<(a:Int))=true:=by simp;omega
      clear hfirst h20 h23 hc0 hc20 loop
      go_enter Tryz.func69,Tryz.ntmps69
      go_wp2_with fail
      go_loopg [25] a (fun kk s25 wr=>∃j:Nat,j+kk=a∧s25=.int .i64 (j:Int)∧New w wr∧NSA (ks.take j))
      case atStart=>exact⟨0,by omega,rfl,(Keep.refl _ w).alloc _,by rw [List.take_zero];exact .nil⟩
      case round=>
       obtain⟨j,hj,rfl,kr,hall⟩:=hrel
       have HALL:=Lib.hid hall
       clear hall
       rcases gk with _ | kk
       ·obtain rfl:a=j:=by omega
        go_wp2
        go_ret
        exact⟨false,rfl,kr,fun _=>.cons H20.out (by have:=HALL.out;rwa [M1.out,List.take_length]at this) .nil⟩
       ·have hjn:j<a:=by omega
        have tj:decide (j<a)=true:=by simpa using hjn
        have hj1:j<ks.length:=by rw [←M1.out];exact hjn
        obtain⟨d2,i2,hAe,-,-,-,hat⟩:=(HK.out.keep kr).at2 (fun h=>by rw [h]at hj1;simp at hj1)
        cases hAe
        obtain⟨e0,e1,e2,e3,e4,e5,hve,g0,g1,g2,g3,g4,g5⟩:=hat j hj1
        obtain⟨A9,c9,o9,A0,c10,heq,-,-⟩:=hve.parts'
        simp only [Value.agg.injEq,Array.mk.injEq,List.cons.injEq,and_true]at heq
        obtain⟨rfl,rfl,rfl,rfl,rfl,rfl⟩:=heq
        have hfu:=HF.out.1.get j hj1
        obtain⟨u,hu⟩:∃u,u=ks[j]:=⟨_,rfl⟩
        have htk:ks.take (j+1)=ks.take j++[u]:=by rw [←List.take_append_getElem hj1,hu]
        have hNu:cnt u≤N:=by rw [hu];exact Nat.le_trans (cnts_get ks j hj1) hNk
        rw [←hu]at hve g0 g1 g2 g3 g5 hfu
        have kE:=(Keep.refl (fun _=>True) wr).alloc (.cells #[.int .i64 u.kind,.int .u64 (u.num:Int),.string ⟨u.text.toArray⟩,.slice A9 u.kids.length c9,.int .i64 o9,.slice A0 u.desc.length c10] 78)
        have HC:=Lib.hid (IH.out u hNu hfu _ _ (hve.keep kE))
        have HTK:=Lib.hid htk
        clear hve hat hu htk hfu
        go_wp2_with fail
        refine HC.out.mono ?_
        rintro e w2 ⟨bb,rfl,k2,hbb⟩
        have HBB:=Lib.hid hbb
        have K2:=Lib.hid ((kr.trans kE).trans k2)
        clear hbb
        cases bb
        ·go_wp2
         go_roundg kk
         case measure=>omega
         case rel=>exact⟨j+1,by omega,congrArg _ (by omega),K2.out,by rw [HTK.out];exact HALL.out.append (HBB.out (by first | rfl | trivial))⟩
        ·go_wp2
         go_ret
         exact No.yes K2.out
     ·obtain rfl:a=0:=by omega
      clear hfirst h20 h23 ha0 loop
      go_enter Tryz.func69,Tryz.ntmps69
      go_wp2_with fail
      go_loopg [25] 0 (fun kk s25 wr=>∃j:Nat,j+kk=0∧s25=.int .i64 (j:Int)∧New w wr∧NSA (ks.take j))
      case atStart=>exact⟨0,by omega,rfl,(Keep.refl _ w).alloc _,by rw [List.take_zero];exact .nil⟩
      case round=>
       obtain⟨j,hj,rfl,kr,hall⟩:=hrel
       have HALL:=Lib.hid hall
       clear hall
       rcases gk with _ | kk
       ·obtain rfl:0=j:=by omega
        go_wp2
        go_ret
        exact⟨false,rfl,kr,fun _=>.cons H20.out (by have:=HALL.out;rwa [M1.out,List.take_length]at this) .nil⟩
       ·omega
    ·have t23:(k==23)=false:=by simpa using h23
     clear hfirst h20 h23 loop
     go_enter Tryz.func69,Tryz.ntmps69
     go_wp2_with fail
     go_loopg [25] a (fun kk s25 wr=>∃j:Nat,j+kk=a∧s25=.int .i64 (j:Int)∧New w wr∧NSA (ks.take j))
     case atStart=>exact⟨0,by omega,rfl,(Keep.refl _ w).alloc _,by rw [List.take_zero];exact .nil⟩
     case round=>
      obtain⟨j,hj,rfl,kr,hall⟩:=hrel
      have HALL:=Lib.hid hall
      clear hall
      rcases gk with _ | kk
      ·obtain rfl:a=j:=by omega
       go_wp2
       go_ret
       exact⟨false,rfl,kr,fun _=>.cons H20.out (by have:=HALL.out;rwa [M1.out,List.take_length]at this) .nil⟩
      ·have hjn:j<a:=by omega
       have tj:decide (j<a)=true:=by simpa using hjn
       have hj1:j<ks.length:=by rw [←M1.out];exact hjn
       obtain⟨d2,i2,hAe,-,-,-,hat⟩:=(HK.out.keep kr).at2 (fun h=>by rw [h]at hj1;simp at hj1)
       cases hAe
       obtain⟨e0,e1,e2,e3,e4,e5,hve,g0,g1,g2,g3,g4,g5⟩:=hat j hj1
       obtain⟨A9,c9,o9,A0,c10,heq,-,-⟩:=hve.parts'
       simp only [Value.agg.injEq,Array.mk.injEq,List.cons.injEq,and_true]at heq
       obtain⟨rfl,rfl,rfl,rfl,rfl,rfl⟩:=heq
       have hfu:=HF.out.1.get j hj1
       obtain⟨u,hu⟩:∃u,u=ks[j]:=⟨_,rfl⟩
       have htk:ks.take (j+1)=ks.take j++[u]:=by rw [←List.take_append_getElem hj1,hu]
       have hNu:cnt u≤N:=by rw [hu];exact Nat.le_trans (cnts_get ks j hj1) hNk
       rw [←hu]at hve g0 g1 g2 g3 g5 hfu
       have kE:=(Keep.refl (fun _=>True) wr).alloc (.cells #[.int .i64 u.kind,.int .u64 (u.num:Int),.string ⟨u.text.toArray⟩,.slice A9 u.kids.length c9,.int .i64 o9,.slice A0 u.desc.length c10] 78)
       have HC:=Lib.hid (IH.out u hNu hfu _ _ (hve.keep kE))
       have HTK:=Lib.hid htk
       clear hve hat hu htk hfu
       go_wp2_with fail
       refine HC.out.mono ?_
       rintro e w2 ⟨bb,rfl,k2,hbb⟩
       have HBB:=Lib.hid hbb
       have K2:=Lib.hid ((kr.trans kE).trans k2)
       clear hbb
       cases bb
       ·go_wp2
        go_roundg kk
        case measure=>omega
        case rel=>exact⟨j+1,by omega,congrArg _ (by omega),K2.out,by rw [HTK.out];exact HALL.out.append (HBB.out (by first | rfl | trivial))⟩
       ·go_wp2
        go_ret
        exact No.yes K2.out
   by_cases h23:k=23
   ·by_cases ha0:0<a
    ·have hj0:0<ks.length:=by rw [←M1.out];exact ha0
     obtain⟨d,i,hAe,-,-,-,hat⟩:=HK.out.at2 (fun h=>by rw [h]at hj0;simp at hj0)
     cases hAe
     obtain⟨e0,e1,e2,e3,e4,e5,hve,g0,-⟩:=hat 0 hj0
     obtain⟨A9,c9,o9,A0,c0,heq,-,-⟩:=hve.parts'
     simp only [Value.agg.injEq,Array.mk.injEq,List.cons.injEq,and_true]at heq
     obtain⟨rfl,rfl,rfl,rfl,rfl,rfl⟩:=heq
     simp only [Nat.zero_mul,Nat.add_zero]at g0
     by_cases h20:ks[0].kind=20
     ·rw [h20]at g0
      have g0':=cell_alloc g0 (.cells #[.int .i64 k,.int .u64 (n:Int),.string ⟨t.toArray⟩,.slice (some ⟨d,i,none⟩) a c1,.int .i64 o,.slice A2 b c2] 78)
      have t23:(k==23)=true:=by simpa using h23
      have ta:decide (0<a)=true:=by simpa using ha0
      have ta':decide ((0:Int)<(a:Int))=true:=by simp;omega
      clear hve hat g0 h23 main
      go_enter Tryz.func69,Tryz.ntmps69
      go_wp2
      go_ret
      exact No.yes ((Keep.refl _ w).alloc _)
     ·refine main (fun e v hv=>?_) (fun _ _=>⟨d,i,_,rfl,g0,h20⟩)
      rw [(HF.out.2 e v hv ks[0] (List.getElem_mem hj0)).1]
      exact h20
    ·refine main (fun e v hv=>?_) (fun _ h=>absurd h ha0)
     have:ks=[]:=List.eq_nil_of_length_eq_zero (by rw [←M1.out];omega)
     rw [this]at hv
     cases hv
   ·exact main (fun e=>absurd e h23) (fun e=>absurd e h23)
theorem in_is(n kk:Int)(d:Nat)(w:World)(hd:w.heap[d]? =some (.cells #[.int .i64 kk] 3 (0,0))):
 Calls Tryz.prog 89 #[.int .i64 n,.slice (some ⟨d,0,none⟩) 1 1] w fun e w'=>e=.returned (.bool (n==kk))∧w=w':=by
 have c0:=(blk_cell hd 0).trans rfl
 have c0:w.cell? ⟨d,0,none⟩=some (.int .i64 kk):=c0
 clear hd
 by_cases h:n=kk
 ·have t1:(n==kk)=true:=by simpa using h
  have t1':(kk==n)=true:=by simpa using h.symm
  rw [t1]
  clear h
  go_enter Tryz.func89,Tryz.ntmps89
  go_wp2_with fail
  go_loopg [9] 1 (fun r s9 wr=>∃j:Nat,j+r=1∧j=0∧s9=.int .i64 (j:Int)∧wr=w)
  case atStart=>exact⟨0,by omega,rfl,rfl,rfl⟩
  case round=>
   obtain⟨j,hj,rfl,rfl,rfl⟩:=hrel
   go_wp2
   go_ret
   exact⟨rfl,rfl⟩
 ·have t1:(n==kk)=false:=by simpa using h
  have t1':(kk==n)=false:=by simpa using fun e=>h e.symm
  rw [t1]
  clear h
  go_enter Tryz.func89,Tryz.ntmps89
  go_wp2_with fail
  go_loopg [9] 1 (fun r s9 wr=>∃j:Nat,j+r=1∧s9=.int .i64 (j:Int)∧wr=w)
  case atStart=>exact⟨0,by omega,rfl,rfl⟩
  case round=>
   obtain⟨j,hj,rfl,rfl⟩:=hrel
   rcases j with _ | j
   ·obtain rfl:gk=1:=by omega
    go_wp2
    go_roundg 0
    case measure=>omega
    case rel=>exact⟨1,rfl,rfl,rfl⟩
   ·obtain rfl:j=0:=by omega
    go_wp2
    go_ret
    exact⟨rfl,rfl⟩
def KeysK(kk:Int)(ks:List V):Prop:=∀j (h:j<ks.length),j % 2=0→ks[j].kind=kk
theorem keysOf_is(k kk:Int)(n:Nat)(t:List UInt8)(ks:List V)(o:Int)(ds:List V)(w:World)(x:Value)(hx:VM w (.mk k n t ks o ds) x)(hmx:ks.length≤1000)(d:Nat)(hd:w.heap[d]? =some (.cells #[.int .i64 kk] 3 (0,0))):
 Calls Tryz.prog 68 #[x,.slice (some ⟨d,0,none⟩) 1 1] w (Yes (k=22∧KeysK kk ks) w):=by
 obtain⟨sk,sd,rfl,hn,hks,hds⟩:=hx.inv
 obtain⟨A1,c1,rfl,hl1,hl1'⟩:=hks.shape
 obtain⟨A2,c2,rfl,hl2,hl2'⟩:=hds.shape
 have hml:=hmx
 clear hl1 hl1' hl2 hl2' hx hmx
 obtain⟨a,ha⟩:∃a,a=ks.length:=⟨_,rfl⟩
 obtain⟨b,hb⟩:∃b,b=ds.length:=⟨_,rfl⟩
 rw [←ha]at hml hks ⊢
 rw [←hb]
 have M1:=Lib.hid ha
 have HK:=Lib.hid hks
 have HD:=Lib.hid hd
 have kA:=(Keep.refl (fun _=>True) w).alloc (.cells #[.int .i64 k,.int .u64 (n:Int),.string ⟨t.toArray⟩,.slice A1 a c1,.int .i64 o,.slice A2 b c2] 78)
 have HBX:=Lib.hid (blk_new w (.cells #[.int .i64 k,.int .u64 (n:Int),.string ⟨t.toArray⟩,.slice A1 a c1,.int .i64 o,.slice A2 b c2] 78))
 clear ha hb hks hds hd
 go_enter Tryz.func68,Tryz.ntmps68
 go_wp2_with fail
 go_loopg [5] (a+1) (fun r s5 wr=>∃j:Nat,2*j+r=a+1∧s5=.int .i64 (2*(j:Int))∧New w wr∧wr.heap[w.heap.size]? =some (.cells #[.int .i64 k,.int .u64 (n:Int),.string ⟨t.toArray⟩,.slice A1 a c1,.int .i64 o,.slice A2 b c2] 78 (0,0))∧∀q (h:q<ks.length),q<2*j→q % 2=0→ks[q].kind=kk)
 case atStart=>exact⟨0,by omega,rfl,kA,HBX.out,fun q h h0=>absurd h0 (by omega)⟩
 case round=>
  obtain⟨j,hj,rfl,kr,hb,hall⟩:=hrel
  have HALL:=Lib.hid hall
  have HBR:=Lib.hid hb
  have z0:=(blk_cell hb 0).trans rfl
  have z3:=(blk_cell hb 3).trans rfl
  clear hall hb
  by_cases hjn:2*j<a
  ·have tj:decide (2*(j:Int)<(a:Int))=true:=by simp;omega
   have hj1:2*j<ks.length:=by rw [←M1.out];exact hjn
   have e2:(2*(j:Int)).toNat=2*j:=by omega
   have hw:2*(j:Int)<(a:Int):=by omega
   obtain⟨d2,i2,hAe,-,-,-,hat⟩:=(HK.out.keep kr).at2 (fun h=>by rw [h]at hj1;simp at hj1)
   cases hAe
   obtain⟨e0,e1,e2',e3,e4,e5,hve,g0,-⟩:=hat (2*j) hj1
   obtain⟨A9,c9,o9,A0,c10,heq,-,-⟩:=hve.parts'
   simp only [Value.agg.injEq,Array.mk.injEq,List.cons.injEq,and_true]at heq
   obtain⟨rfl,rfl,rfl,rfl,rfl,rfl⟩:=heq
   obtain⟨u,hu⟩:∃u,u=(ks[2*j]'hj1).kind:=⟨_,rfl⟩
   rw [←hu]at g0
   have HU:=Lib.hid hu
   have hin:=in_is u kk d wr (kr.blk HD.out trivial)
   have HIN:=Lib.hid hin
   clear hve hat hu hin hjn
   by_cases huk:u=kk
   ·have tu:(u==kk)=true:=by simpa using huk
    have HUK:=Lib.hid huk
    rw [tu]at HIN
    clear huk
    go_wp2_with fail
    refine HIN.out.mono ?_
    rintro e w2 ⟨rfl,rfl⟩
    go_wp2
    obtain⟨r,rfl⟩:∃r,gk=r+2:=⟨gk-2,by omega⟩
    go_roundg r
    case measure=>omega
    case rel=>
     refine⟨j+1,by omega,congrArg _ (by omega),kr,HBR.out,fun q h hq h2=>?_⟩
     rcases Nat.lt_or_ge q (2*j)with h1 | h1
     ·exact HALL.out q h h1 h2
     ·obtain rfl:q=2*j:=by omega
      exact HU.out.symm.trans HUK.out
   ·have tu:(u==kk)=false:=by simpa using huk
    rw [tu]at HIN
    clear huk
    go_wp2_with fail
    refine HIN.out.mono ?_
    rintro e w2 ⟨rfl,rfl⟩
    go_wp2
    go_ret
    exact Yes.no kr
  ·have tj:decide (2*(j:Int)<(a:Int))=false:=by simp;omega
   have HA:=Lib.hid (show KeysK kk ks from fun q h h2=>HALL.out q h (by have:=M1.out;omega) h2)
   clear hjn
   go_wp2
   go_ret
   exact⟨_,rfl,kr,fun h=>⟨by simpa using h,HA.out⟩⟩
def TextsK(ks:List V)(j:Nat):Prop:=∀i (h:i<ks.length),i<j→18≤ks[i].kind→ks[i].kind≤20→ks[i].text≠[]
theorem TextsK.step{ks:List V}{j:Nat}(h:TextsK ks j)(hj:j<ks.length)(e:18≤ks[j].kind→ks[j].kind≤20→ks[j].text≠[]):TextsK ks (j+1):=by
 intro i hi hlt
 rcases Nat.lt_or_ge i j with h1 | h1
 ·exact h i hi h1
 ·obtain rfl:i=j:=by omega
  exact e
theorem TextsK.all{ks:List V}(h:TextsK ks ks.length):∀v∈ks,18≤v.kind→v.kind≤20→v.text≠[]:=by
 intro v hv
 obtain⟨i,hi,rfl⟩:=List.getElem_of_mem hv
 exact h i hi hi
def TextsA(ks:List V):Prop:=∀v∈ks,18≤v.kind→v.kind≤20→v.text≠[]
theorem asked_is(ks:List V)(w:World)(s:Value)(hs:LM w ks s):Calls Tryz.prog 143 #[s] w (Yes (TextsA ks) w):=by
 obtain⟨A1,c1,rfl,hl1,hl1'⟩:=hs.shape
 have hml:ks.length≤maxLen:=by omega
 unfold maxLen at hml
 obtain⟨a,ha⟩:∃a,a=ks.length:=⟨_,rfl⟩
 rw [←ha]at hml hs ⊢
 have M1:=Lib.hid ha
 have HK:=Lib.hid hs
 clear ha hs hl1 hl1'
 go_enter Tryz.func143,Tryz.ntmps143
 go_wp2_with fail
 go_loopg [3,4,10] a (fun kk s3 s4 s10 wr=>∃(j:Nat) (lo hi:Bool),j+kk=a∧s3=.bool lo∧s4=.bool hi∧s10=.int .i64 (j:Int)∧New w wr∧TextsK ks j)
 case atStart=>exact⟨0,false,false,by omega,rfl,rfl,rfl,Keep.refl _ w,fun i h h0=>absurd h0 (by omega)⟩
 case round=>
  obtain⟨j,lo,hi,hj,rfl,rfl,rfl,kr,hall⟩:=hrel
  rcases gk with _ | kk
  ·obtain rfl:a=j:=by omega
   have HA:=Lib.hid (show TextsA ks from TextsK.all (by rw [←M1.out];exact hall))
   clear hall
   cases lo
   all_goals
    go_wp2
    go_ret
    exact⟨_,rfl,kr,fun _=>HA.out⟩
  ·have hjn:j<a:=by omega
   have tj:decide (j<a)=true:=by simpa using hjn
   have hj1:j<ks.length:=by rw [←M1.out];exact hjn
   obtain⟨d2,i2,hAe,-,-,-,hat⟩:=(HK.out.keep kr).at2 (fun h=>by rw [h]at hj1;simp at hj1)
   cases hAe
   obtain⟨e0,e1,e2,e3,e4,e5,hve,g0,g1,g2,g3,g4,g5⟩:=hat j hj1
   obtain⟨A9,c9,o9,A0,c10,heq,-,-⟩:=hve.parts'
   simp only [Value.agg.injEq,Array.mk.injEq,List.cons.injEq,and_true]at heq
   obtain⟨rfl,rfl,rfl,rfl,rfl,rfl⟩:=heq
   have STEP:=Lib.hid (hall.step hj1)
   obtain⟨u,hu⟩:∃u,u=ks[j]:=⟨_,rfl⟩
   rw [←hu]at g0 g1 g2 g3 g5 STEP
   have kE:=(Keep.refl (fun _=>True) wr).alloc (.cells #[.int .i64 u.kind,.int .u64 (u.num:Int),.string ⟨u.text.toArray⟩,.slice A9 u.kids.length c9,.int .i64 o9,.slice A0 u.desc.length c10] 78)
   have KE:=Lib.hid (kr.trans kE)
   clear hve hat hu hall hj1 kE
   obtain⟨uk,un,ut,uks,uo,uds⟩:=u
   simp only [V.kind,V.num,V.text,V.kids,V.desc]at g0 g1 g2 g3 g5 STEP KE
   go_upto_region 6 with fail
   go_cut [24] (fun s24 wc=>∃b:Bool,s24=.bool b∧wc=wr.alloc (.cells #[.int .i64 uk,.int .u64 (un:Int),.string ⟨ut.toArray⟩,.slice A9 uks.length c9,.int .i64 o9,.slice A0 uds.length c10] 78))
   case first=>
    cases e8:(uk==8)
    ·cases e9:(uk==9)
     all_goals
      go_wp2
      go_meet
      exact⟨_,rfl,rfl⟩
    ·go_wp2
     go_meet
     exact⟨_,rfl,rfl⟩
   case rest=>
    obtain⟨b,rfl,hwc⟩:=hcut
    obtain rfl:=hwc.symm
    go_upto_if 24 with fail
    go_cut [3,4] (fun s3 s4 wc=>∃lo hi:Bool,s3=.bool lo∧s4=.bool hi∧wc=wr.alloc (.cells #[.int .i64 uk,.int .u64 (un:Int),.string ⟨ut.toArray⟩,.slice A9 uks.length c9,.int .i64 o9,.slice A0 uds.length c10] 78))
    case first=>
     cases b
     ·go_wp2
      go_meet
      exact⟨_,_,rfl,rfl,rfl⟩
     ·cases lo<;>cases hi
      all_goals go_wp2
      all_goals go_meet
      all_goals exact⟨_,_,rfl,rfl,rfl⟩
    case rest=>
     obtain⟨lo',hi',rfl,rfl,hwc⟩:=hcut
     obtain rfl:=hwc.symm
     rcases (show uk=16∨(18≤uk∧uk≤20)∨(uk≠16∧uk<18)∨20<uk by omega)with rfl | ⟨h1,h2⟩ | ⟨h1,h2⟩ | h1
     ·have ST:=STEP.out (fun h=>absurd h (by omega))
      cases f1:decide (wrap64 (un:Int)< -9200000000000)
      ·cases f2:decide (9200000000000<wrap64 (un:Int))
       ·go_wp2
        go_roundg kk
        case measure=>omega
        case rel=>exact⟨j+1,_,_,by omega,rfl,rfl,congrArg _ (by omega),KE.out,ST⟩
       ·go_wp2
        go_ret
        exact Yes.no KE.out
      ·go_wp2
       go_ret
       exact Yes.no KE.out
     ·have e16:(uk==16)=false:=by simp;omega
      have e18:decide (18≤uk)=true:=by simp;omega
      have e20:decide (uk≤20)=true:=by simp;omega
      clear h1 h2
      rcases ut with _ | ⟨t0,ut⟩
      ·go_wp2
       go_ret
       exact Yes.no KE.out
      ·have ST:=STEP.out (fun _ _=>by simp)
       go_wp2
       go_roundg kk
       case measure=>omega
       case rel=>exact⟨j+1,_,_,by omega,rfl,rfl,congrArg _ (by omega),KE.out,ST⟩
     ·have ST:=STEP.out (fun h=>absurd h (by omega))
      have e16:(uk==16)=false:=by simp;omega
      have e18:decide (18≤uk)=false:=by simp;omega
      clear h1 h2
      go_wp2
      go_roundg kk
      case measure=>omega
      case rel=>exact⟨j+1,_,_,by omega,rfl,rfl,congrArg _ (by omega),KE.out,ST⟩
     ·have ST:=STEP.out (fun _ h=>absurd h (by omega))
      have e16:(uk==16)=false:=by simp;omega
      have e18:decide (18≤uk)=true:=by simp;omega
      have e20:decide (uk≤20)=false:=by simp;omega
      clear h1
      go_wp2
      go_roundg kk
      case measure=>omega
      case rel=>exact⟨j+1,_,_,by omega,rfl,rfl,congrArg _ (by omega),KE.out,ST⟩
end Go.Proofs.YtfoegolfadhmjaaGreatDoor
