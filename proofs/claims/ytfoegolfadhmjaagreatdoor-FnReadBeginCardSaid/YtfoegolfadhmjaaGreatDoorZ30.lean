/- spec.contentFits. -/
import Derived.Test.YtfoegolfadhmjaaGreatDoorZ23
import Derived.Test.YtfoegolfadhmjaaGreatDoorZ29
import Derived.Lib.EndianBits
set_option linter.all false
set_option maxRecDepth 100000
set_option maxHeartbeats 40000000
namespace Go.Proofs.YtfoegolfadhmjaaGreatDoor
open Go.RowKit Go.WideShapes Go.Sort
theorem ufit_1{n:Nat}(hn:n<18446744073709551616)(h:(IntKind.u64.wrap ((n:Int)*72057594037927936)/72057594037927936 !=(n:Int))=false):n<256:=by
 rw [IntKind.wrap_u64]at h
 simp at h
 omega
theorem sfit_1{n:Nat}(hn:n<18446744073709551616)(h:(IntKind.u64.wrap (wrap64 (IntKind.u64.wrap ((n:Int)*72057594037927936))/72057594037927936) !=(n:Int))=false):Fits 8 n:=by
 simp only [IntKind.wrap_u64]at h
 simp only [bne_eq_false_iff_eq]at h
 refine⟨hn,?_,?_⟩<;>(unfold sgn;unfold wrap64 at *;omega)
theorem ufit_2{n:Nat}(hn:n<18446744073709551616)(h:(IntKind.u64.wrap ((n:Int)*281474976710656)/281474976710656 !=(n:Int))=false):n<65536:=by
 rw [IntKind.wrap_u64]at h
 simp at h
 omega
theorem sfit_2{n:Nat}(hn:n<18446744073709551616)(h:(IntKind.u64.wrap (wrap64 (IntKind.u64.wrap ((n:Int)*281474976710656))/281474976710656) !=(n:Int))=false):Fits 16 n:=by
 simp only [IntKind.wrap_u64]at h
 simp only [bne_eq_false_iff_eq]at h
 refine⟨hn,?_,?_⟩<;>(unfold sgn;unfold wrap64 at *;omega)
theorem ufit_4{n:Nat}(hn:n<18446744073709551616)(h:(IntKind.u64.wrap ((n:Int)*4294967296)/4294967296 !=(n:Int))=false):n<4294967296:=by
 rw [IntKind.wrap_u64]at h
 simp at h
 omega
theorem sfit_4{n:Nat}(hn:n<18446744073709551616)(h:(IntKind.u64.wrap (wrap64 (IntKind.u64.wrap ((n:Int)*4294967296))/4294967296) !=(n:Int))=false):Fits 32 n:=by
 simp only [IntKind.wrap_u64]at h
 simp only [bne_eq_false_iff_eq]at h
 refine⟨hn,?_,?_⟩<;>(unfold sgn;unfold wrap64 at *;omega)
theorem ascii_valid{t:List UInt8}(h:∀x∈t,x.toNat<128):Lib.validD t=true:=by
 rw [Lib.validD_ascii t.length t (fun b hb=>h b (List.mem_of_mem_take hb)),List.drop_length]
 rfl
def Pass(lv k:Int)(n:Nat)(t:List UInt8)(a b:Nat):Prop:=
 0<lv∧0≤k∧k<24∧(k<21→a=0)∧(¬(17≤k∧k≤20∨k=14)→t=[])∧(¬(1≤k∧k≤16∧k≠14)→n=0)∧b≤1∧a≤1000∧t.length≤131072
def Cont(k:Int)(n:Nat)(t:List UInt8)(ks:List V):Prop:=
 (k=1→n≤1)∧(k=2→n<256)∧(k=3→n<65536)∧(k=4∨k=10→n<4294967296)∧(k=6→Fits 8 n)∧(k=7→Fits 16 n)∧(k=8→Fits 32 n)∧(k=17→t.length=16)∧(k=19∨k=20→Lib.validD t=true)∧(k=22→ks.length % 2=0)∧(k=23→AlikeA ks)
theorem FitL.append{l m:List V}(h:FitL l)(k:FitL m):FitL (l++m):=by
 induction h with
 | nil=>exact k
 | cons h hk hd hs _ _ ih=>exact .cons h hk hd ih
theorem fitC_of{lv k:Int}{n:Nat}{t:List UInt8}{ks ds:List V}(h:Pass lv k n t ks.length ds.length)(hn:n<18446744073709551616)(hc:Cont k n t ks):FitC k n t ks ds:=by
 obtain⟨-,h1,h2,h3,h4,h5,h6,h7,h8⟩:=h
 obtain⟨c1,c2,c3,c4,c5,c6,c7,c8,c9,c10,c11⟩:=hc
 exact⟨h1,h2,fun h=>List.eq_nil_of_length_eq_zero (h3 h),h4,h5,h7,h8,hn,c1,c2,c3,c4,c5,c6,c7,c8,c10,fun h=>c11 h,h6,c9⟩
theorem fixed_tab:fixedV 0=-1∧fixedV 1=-1∧fixedV 2=1∧fixedV 3=2∧fixedV 4=4∧fixedV 5=8∧fixedV 6=1∧fixedV 7=2∧fixedV 8=4∧fixedV 9=8∧fixedV 10=4∧fixedV 11=8∧fixedV 12=4∧fixedV 13=8∧fixedV 14=16∧fixedV 15=4∧fixedV 16=8∧fixedV 17=16∧fixedV 18=-1∧fixedV 19=-1∧fixedV 20=-1∧fixedV 21=-1∧fixedV 22=-1∧fixedV 23=-1:=by decide
theorem content_is(k:Int)(hk:0≤k∧k<24)(n:Nat)(t:List UInt8)(ks:List V)(o:Int)(ds:List V)(ht:t.length≤131072)(w:World)(VC:Vld w)(x:Value)(hx:VM w (.mk k n t ks o ds) x):Calls Tryz.prog 87 #[x] w (Yes (Cont k n t ks) w):=by
 have hx0:=hx
 obtain⟨sk,sd,rfl,hn,hks,hds⟩:=hx.inv
 obtain⟨A1,c1,rfl,hm1,hm2⟩:=hks.shape
 obtain⟨A2,c2,rfl,_,_⟩:=hds.shape
 have hml:ks.length≤maxLen:=by omega
 unfold maxLen at hml
 obtain⟨m,hm⟩:∃m,m=ks.length:=⟨_,rfl⟩
 obtain⟨b2,hb2⟩:∃b,b=ds.length:=⟨_,rfl⟩
 rw [←hm]at hx0 hml ⊢
 rw [←hb2]at hx0 ⊢
 have HX:=Lib.hid hx0
 have HV:=Lib.hid VC
 have M:=Lib.hid hm
 have kA:=(Keep.refl (fun _=>True) w).alloc (.cells #[.int .i64 k,.int .u64 (n:Int),.string ⟨t.toArray⟩,.slice A1 m c1,.int .i64 o,.slice A2 b2 c2] 78)
 have hfx:=fixed_is k (w.alloc (.cells #[.int .i64 k,.int .u64 (n:Int),.string ⟨t.toArray⟩,.slice A1 m c1,.int .i64 o,.slice A2 b2 c2] 78))
 have hbx:=blk_new w (.cells #[.int .i64 k,.int .u64 (n:Int),.string ⟨t.toArray⟩,.slice A1 m c1,.int .i64 o,.slice A2 b2 c2] 78)
 clear hx hx0 hks hds hm hb2 VC hm1 hm2
 obtain⟨v0,hv0⟩:∃v,v=fixedV k:=⟨_,rfl⟩
 rw [←hv0]at hfx
 have FX:=Lib.hid hfx
 clear hfx
 have hcs:(k=2∨k=3∨k=4∨k=5∨k=10∨k=11∨k=12∨k=13∨k=15∨k=16)∨(k=6∨k=7∨k=8∨k=9)∨k=0∨k=1∨k=14∨k=17∨k=18∨k=19∨k=20∨k=21∨k=22∨k=23:=by omega
 rcases hcs with hcs | hcs | hcs
 ·rcases hcs with rfl | rfl | rfl | rfl | rfl | rfl | rfl | rfl | rfl | rfl
  all_goals simp only [fixed_tab]at hv0
  all_goals subst hv0
  all_goals
   go_enter Tryz.func87,Tryz.ntmps87
   go_wp2_with fail
   refine FX.out.mono ?_
   rintro e w1 ⟨rfl,k1⟩
   have kr:=kA.trans k1
   have hb:=k1.blk hbx trivial
   have z0:=(blk_cell hb 0).trans rfl
   have z0':=fun q os=>cell_regrown z0 q os
   have z1:=(blk_cell hb 1).trans rfl
   have z1':=fun q os=>cell_regrown z1 q os
   have z4:=(blk_cell hb 4).trans rfl
   have z4':=fun q os=>cell_regrown z4 q os
   clear hb hbx FX
   go_wp2_with fail
   refine wp_region_quiet_below (by kernel_rfl) (by kernel_rfl) ?_
   repeat (go_big_quiet_step (fail))
   refine wpQuiet_nil ?_
   intro _ hw'
   obtain⟨⟨dq,osq⟩,hw''⟩:=hw'
   subst hw''
   have kr4:=kr.trans (new_regrown w1 dq osq)
   go_wp2
   all_goals go_ret
   all_goals first | (refine⟨_,rfl,kr4,fun h=>⟨?_,?_,?_,?_,?_,?_,?_,?_,?_,?_,?_⟩⟩<;>intro e<;>first | exact absurd e (by decide) | (with_reducible exact ufit_1 hn (by assumption)) | (with_reducible exact ufit_2 hn (by assumption)) | (with_reducible exact ufit_4 hn (by assumption))) | exact Yes.no kr4
 ·rcases hcs with rfl | rfl | rfl | rfl
  all_goals simp only [fixed_tab]at hv0
  all_goals subst hv0
  obtain⟨B,hB⟩:∃B,(IntKind.u64.wrap (wrap64 (IntKind.u64.wrap ((n:Int)*72057594037927936))/72057594037927936) !=(n:Int))=B:=⟨_,rfl⟩
  rotate_left
  obtain⟨B,hB⟩:∃B,(IntKind.u64.wrap (wrap64 (IntKind.u64.wrap ((n:Int)*281474976710656))/281474976710656) !=(n:Int))=B:=⟨_,rfl⟩
  rotate_left
  obtain⟨B,hB⟩:∃B,(IntKind.u64.wrap (wrap64 (IntKind.u64.wrap ((n:Int)*4294967296))/4294967296) !=(n:Int))=B:=⟨_,rfl⟩
  rotate_left
  obtain⟨B,hB⟩:∃B,(IntKind.u64.wrap (wrap64 (n:Int)) !=(n:Int))=B:=⟨_,rfl⟩
  rotate_left
  all_goals
   have HB:=Lib.hid hB
   cases B
  all_goals
   have hb0:=HB.out
   go_enter Tryz.func87,Tryz.ntmps87
   go_wp2_with fail
   refine FX.out.mono ?_
   rintro e w1 ⟨rfl,k1⟩
   have kr:=kA.trans k1
   have hb:=k1.blk hbx trivial
   have z0:=(blk_cell hb 0).trans rfl
   have z0':=fun q os=>cell_regrown z0 q os
   have z1:=(blk_cell hb 1).trans rfl
   have z1':=fun q os=>cell_regrown z1 q os
   have z4:=(blk_cell hb 4).trans rfl
   have z4':=fun q os=>cell_regrown z4 q os
   clear hb hbx FX
   go_wp2_with fail
   refine wp_region_quiet_below (by kernel_rfl) (by kernel_rfl) ?_
   repeat (go_big_quiet_step (fail))
   refine wpQuiet_nil ?_
   intro _ hw'
   obtain⟨⟨dq,osq⟩,hw''⟩:=hw'
   subst hw''
   have kr4:=kr.trans (new_regrown w1 dq osq)
   go_wp2
   all_goals go_ret
   all_goals first | (refine⟨_,rfl,kr4,fun h=>⟨?_,?_,?_,?_,?_,?_,?_,?_,?_,?_,?_⟩⟩<;>intro e<;>first | exact absurd e (by decide) | (with_reducible exact sfit_1 hn (by assumption)) | (with_reducible exact sfit_2 hn (by assumption)) | (with_reducible exact sfit_4 hn (by assumption))) | exact Yes.no kr4
 ·rcases hcs with rfl | rfl | rfl | rfl | rfl | rfl | rfl | rfl | rfl | rfl
  all_goals simp only [fixed_tab]at hv0
  all_goals subst hv0
  all_goals
   go_enter Tryz.func87,Tryz.ntmps87
   go_wp2_with fail
   refine FX.out.mono ?_
   rintro e w1 ⟨rfl,k1⟩
   have kr:=kA.trans k1
   have hb:=k1.blk hbx trivial
   have z0:=(blk_cell hb 0).trans rfl
   have z1:=(blk_cell hb 1).trans rfl
   have z2:=(blk_cell hb 2).trans rfl
   have z3:=(blk_cell hb 3).trans rfl
   have z4:=(blk_cell hb 4).trans rfl
   have z5:=(blk_cell hb 5).trans rfl
   clear hb hbx FX
   have hq:((m:Int)).tmod 2=((m % 2:Nat):Int):=by rw [Int.tmod_eq_emod_of_nonneg (by omega)];omega
   go_wp2_with fail
   first
    | refine((HV.out.new kr) w1 (Keep.refl _ _) t (by omega)).mono ?_
      rintro e w2 ⟨rfl,k2⟩
      go_wp2
      go_ret
      exact⟨_,rfl,kr.trans k2,fun h=>by refine⟨?_,?_,?_,?_,?_,?_,?_,?_,?_,?_,?_⟩<;>intro e<;>first | exact absurd e (by decide) | exact h⟩
    | refine(ascii_is t (by omega) w1).mono ?_
      rintro e w2 ⟨b,rfl,k2,hbb⟩
      go_wp2
      go_ret
      exact⟨_,rfl,kr.trans k2,fun h=>by refine⟨?_,?_,?_,?_,?_,?_,?_,?_,?_,?_,?_⟩<;>intro e<;>first | exact absurd e (by decide) | exact ascii_valid (hbb h)⟩
    | refine(arrFits_is 23 n t ks o ds w1 _ (HX.out.keep kr)).mono ?_
      rintro e w2 ⟨b,rfl,k2,hbb⟩
      go_wp2
      go_ret
      exact⟨_,rfl,kr.trans k2,fun h=>by refine⟨?_,?_,?_,?_,?_,?_,?_,?_,?_,?_,?_⟩<;>intro e<;>first | exact absurd e (by decide) | exact hbb h⟩
    | go_wp2
      all_goals go_ret
      all_goals first | exact Yes.no kr | exact⟨_,rfl,kr,fun h=>by refine⟨?_,?_,?_,?_,?_,?_,?_,?_,?_,?_,?_⟩<;>intro e<;>first | exact absurd e (by decide) | exact h | (simp at h;have hmm:=M.out;first | exact h | omega)⟩
end Go.Proofs.YtfoegolfadhmjaaGreatDoor
