/- impl.valued at lists and maps, by what the walk within gives. -/
import Derived.Test.YtfoegolfadhmjaaGreatDoorZ05
set_option linter.all false
set_option maxRecDepth 100000
set_option maxHeartbeats 4000000
namespace Go.Proofs.YtfoegolfadhmjaaGreatDoor
open Go.RowKit Go.WideShapes
theorem vsub_list(A0:Option Addr)(l0 cc0:Nat)(R:List V→Prop)(w:World)
 (hcall:∀w1,New w w1→Calls Tryz.prog 151 #[.slice A0 l0 cc0] w1 fun e w'=>∃s us,e=.returned (.tuple #[s,.bool true])∧New w1 w'∧R us∧Dep (fun b=>w1.heap.size≤b) w' (fun w=>LM w us s)):
 Calls Tryz.prog 91 #[.iface 310 (.slice A0 l0 cc0)] w fun e w2=>∃y us,e=.returned (.tuple #[y,.bool true])∧New w w2∧R us∧Dep (fun b=>w.heap.size≤b) w2 (fun w=>VM w (.mk 21 0 [] us 0 []) y):=by
 have HC:=Lib.hid hcall
 clear hcall
 go_enter Tryz.func91,Tryz.ntmps91
 go_wp2_with fail
 refine(HC.out _ ((Keep.refl _ w).alloc _)).mono ?_
 rintro e w1 ⟨s,us,rfl,k1,hr,hd⟩
 obtain⟨A,cc,rfl,_⟩:=hd.here.shape
 have k2:=(((Keep.refl (fun _=>True) w).alloc _).trans k1)
 have hb:=k1.blk (blk_new w _) trivial
 have c0:=(blk_cell hb 0).trans rfl
 have c1:=(blk_cell hb 1).trans rfl
 have c2:=(blk_cell hb 2).trans rfl
 have c3:=(blk_cell hb 3).trans rfl
 have c4:=(blk_cell hb 4).trans rfl
 have c5:=(blk_cell hb 5).trans rfl
 have f0:=blk_free hb 0
 have f1:=blk_free hb 1
 have f2:=blk_free hb 2
 have f3:=blk_free hb 3
 have f4:=blk_free hb 4
 have f5:=blk_free hb 5
 have HD:=Lib.hid hd
 have HR:=Lib.hid hr
 clear hb hd hr
 go_wp2
 refine bodyPost_ret (v:=.tuple #[.agg #[.int .i64 21,.int .u64 0,.string ⟨#[]⟩,.slice A us.length cc,.int .i64 0,.slice none 0 0],.bool true]) (by simp [results,Tryz.results91,go_sem,c0,c1,c2,c3,c4,c5]) rfl ⟨_,us,rfl,?_,HR.out,?_⟩
 ·repeat (refine Keep.setCell ?_ (Or.inl (b:=¬True) (Nat.le_refl _)) _)
  exact k2
 ·refine Dep.imp (φ:=fun w=>LM w us (.slice A us.length cc)) ?_ fun w h=>VM.mk (t:=[]) (by omega) h LM.nil
  refine Dep.mono (ok:=fun b=>(w.alloc (.cells #[.int .i64 0,.int .u64 0,.string ⟨#[]⟩,.slice none 0 0,.int .i64 0,.slice none 0 0] 78)).heap.size≤b) ?_ (fun k _ hk=>by simp only [World.size_alloc]at hk;omega)
  refine Dep.keep (ok':=fun b=>b≠w.heap.size) HD.out ?_ (fun k _ hk=>by simp only [World.size_alloc]at hk;omega)
  repeat (refine Keep.setCell ?_ (Or.inr (by simp)) _)
  exact Keep.refl _ _
theorem vsub_pairs(A0:Option Nat)(R:List V→Prop)(w:World)
 (hcall:∀w1,New w w1→Calls Tryz.prog 152 #[.map A0] w1 fun e w'=>∃s us,e=.returned (.tuple #[s,.bool true])∧New w1 w'∧R us∧Dep (fun b=>w1.heap.size≤b) w' (fun w=>LM w us s)):
 Calls Tryz.prog 91 #[.iface 277 (.map A0)] w fun e w2=>∃y us,e=.returned (.tuple #[y,.bool true])∧New w w2∧R us∧Dep (fun b=>w.heap.size≤b) w2 (fun w=>VM w (.mk 22 0 [] us 0 []) y):=by
 have HC:=Lib.hid hcall
 clear hcall
 go_enter Tryz.func91,Tryz.ntmps91
 go_wp2_with fail
 refine(HC.out _ ((Keep.refl _ w).alloc _)).mono ?_
 rintro e w1 ⟨s,us,rfl,k1,hr,hd⟩
 obtain⟨A,cc,rfl,_⟩:=hd.here.shape
 have k2:=(((Keep.refl (fun _=>True) w).alloc _).trans k1)
 have hb:=k1.blk (blk_new w _) trivial
 have c0:=(blk_cell hb 0).trans rfl
 have c1:=(blk_cell hb 1).trans rfl
 have c2:=(blk_cell hb 2).trans rfl
 have c3:=(blk_cell hb 3).trans rfl
 have c4:=(blk_cell hb 4).trans rfl
 have c5:=(blk_cell hb 5).trans rfl
 have f0:=blk_free hb 0
 have f1:=blk_free hb 1
 have f2:=blk_free hb 2
 have f3:=blk_free hb 3
 have f4:=blk_free hb 4
 have f5:=blk_free hb 5
 have HD:=Lib.hid hd
 have HR:=Lib.hid hr
 clear hb hd hr
 go_wp2
 refine bodyPost_ret (v:=.tuple #[.agg #[.int .i64 22,.int .u64 0,.string ⟨#[]⟩,.slice A us.length cc,.int .i64 0,.slice none 0 0],.bool true]) (by simp [results,Tryz.results91,go_sem,c0,c1,c2,c3,c4,c5]) rfl ⟨_,us,rfl,?_,HR.out,?_⟩
 ·repeat (refine Keep.setCell ?_ (Or.inl (b:=¬True) (Nat.le_refl _)) _)
  exact k2
 ·refine Dep.imp (φ:=fun w=>LM w us (.slice A us.length cc)) ?_ fun w h=>VM.mk (t:=[]) (by omega) h LM.nil
  refine Dep.mono (ok:=fun b=>(w.alloc (.cells #[.int .i64 0,.int .u64 0,.string ⟨#[]⟩,.slice none 0 0,.int .i64 0,.slice none 0 0] 78)).heap.size≤b) ?_ (fun k _ hk=>by simp only [World.size_alloc]at hk;omega)
  refine Dep.keep (ok':=fun b=>b≠w.heap.size) HD.out ?_ (fun k _ hk=>by simp only [World.size_alloc]at hk;omega)
  repeat (refine Keep.setCell ?_ (Or.inr (by simp)) _)
  exact Keep.refl _ _
theorem vsub_texts(A0:Option Nat)(R:List V→Prop)(w:World)
 (hcall:∀w1,New w w1→Calls Tryz.prog 81 #[.int .i64 19,.map A0] w1 fun e w'=>∃s us,e=.returned (.tuple #[s,.bool true])∧New w1 w'∧R us∧Dep (fun b=>w1.heap.size≤b) w' (fun w=>LM w us s)):
 Calls Tryz.prog 91 #[.iface 96 (.map A0)] w fun e w2=>∃y us,e=.returned (.tuple #[y,.bool true])∧New w w2∧R us∧Dep (fun b=>w.heap.size≤b) w2 (fun w=>VM w (.mk 22 0 [] us 0 []) y):=by
 have HC:=Lib.hid hcall
 clear hcall
 go_enter Tryz.func91,Tryz.ntmps91
 go_wp2_with fail
 refine(HC.out _ ((Keep.refl _ w).alloc _)).mono ?_
 rintro e w1 ⟨s,us,rfl,k1,hr,hd⟩
 obtain⟨A,cc,rfl,_⟩:=hd.here.shape
 have k2:=(((Keep.refl (fun _=>True) w).alloc _).trans k1)
 have hb:=k1.blk (blk_new w _) trivial
 have c0:=(blk_cell hb 0).trans rfl
 have c1:=(blk_cell hb 1).trans rfl
 have c2:=(blk_cell hb 2).trans rfl
 have c3:=(blk_cell hb 3).trans rfl
 have c4:=(blk_cell hb 4).trans rfl
 have c5:=(blk_cell hb 5).trans rfl
 have f0:=blk_free hb 0
 have f1:=blk_free hb 1
 have f2:=blk_free hb 2
 have f3:=blk_free hb 3
 have f4:=blk_free hb 4
 have f5:=blk_free hb 5
 have HD:=Lib.hid hd
 have HR:=Lib.hid hr
 clear hb hd hr
 go_wp2
 refine bodyPost_ret (v:=.tuple #[.agg #[.int .i64 22,.int .u64 0,.string ⟨#[]⟩,.slice A us.length cc,.int .i64 0,.slice none 0 0],.bool true]) (by simp [results,Tryz.results91,go_sem,c0,c1,c2,c3,c4,c5]) rfl ⟨_,us,rfl,?_,HR.out,?_⟩
 ·repeat (refine Keep.setCell ?_ (Or.inl (b:=¬True) (Nat.le_refl _)) _)
  exact k2
 ·refine Dep.imp (φ:=fun w=>LM w us (.slice A us.length cc)) ?_ fun w h=>VM.mk (t:=[]) (by omega) h LM.nil
  refine Dep.mono (ok:=fun b=>(w.alloc (.cells #[.int .i64 0,.int .u64 0,.string ⟨#[]⟩,.slice none 0 0,.int .i64 0,.slice none 0 0] 78)).heap.size≤b) ?_ (fun k _ hk=>by simp only [World.size_alloc]at hk;omega)
  refine Dep.keep (ok':=fun b=>b≠w.heap.size) HD.out ?_ (fun k _ hk=>by simp only [World.size_alloc]at hk;omega)
  repeat (refine Keep.setCell ?_ (Or.inr (by simp)) _)
  exact Keep.refl _ _
end Go.Proofs.YtfoegolfadhmjaaGreatDoor
