/- Maps of two integers that a region makes. -/
import Derived.Test.YtfoegolfadhmjaaGreatDoorZ15
import Derived.Test.YtfoegolfadhmjaaGreatDoorZ21
set_option linter.all false
set_option maxRecDepth 100000
set_option maxHeartbeats 8000000
namespace Go.Proofs.YtfoegolfadhmjaaGreatDoor
open Go.RowKit Go.WideShapes
theorem drewN_size(w:World)(n:Nat):(w.drewN n).heap.size=w.heap.size:=rfl
theorem fin_alloc{w wb X:World}{ok:Nat→Prop}{φ:World→Prop}{kv:Value}(h:X.cell? ⟨w.heap.size,0,none⟩=some kv∧New w X)(hd:Dep ok wb φ)(N:New wb X)(hok:∀k,k<wb.heap.size→ok k→w.heap.size≤k)(hlt:w.heap.size<X.heap.size)(c v:Value):
 (X.alloc (.cells #[c,v] 143)).heap[X.heap.size]? =some (.cells #[c,v] 143 (0,0))∧New w (X.alloc (.cells #[c,v] 143))∧w.heap.size<X.heap.size∧Dep (fun b=>w.heap.size≤b∧b≠X.heap.size) (X.alloc (.cells #[c,v] 143)) φ∧(X.alloc (.cells #[c,v] 143)).cell? ⟨w.heap.size,0,none⟩=some kv:=
 ⟨blk_new X _,h.2.alloc _,hlt,hd.step (N.alloc _).size (fun k hk _=>(N.alloc _).block k hk trivial) fun k hk ho=>⟨hok k hk ho,by have:=N.size;omega⟩,cell_alloc h.1 _⟩
theorem fin_set{w wb X:World}{ok:Nat→Prop}{φ:World→Prop}{p:Nat}{a b kv:Value}(P:X.heap[p]? =some (.cells #[a,b] 143 (0,0)))(h:X.cell? ⟨w.heap.size,0,none⟩=some kv∧New w X)(hd:Dep ok wb φ)(N:New wb X)(hok:∀k,k<wb.heap.size→ok k→w.heap.size≤k∧k≠p)(hlt:w.heap.size<p)(c v:Value):
 ((X.setCell ⟨p,0,none⟩ c).setCell ⟨p,1,none⟩ v).heap[p]? =some (.cells #[c,v] 143 (0,0))∧New w ((X.setCell ⟨p,0,none⟩ c).setCell ⟨p,1,none⟩ v)∧w.heap.size<p∧Dep (fun b=>w.heap.size≤b∧b≠p) ((X.setCell ⟨p,0,none⟩ c).setCell ⟨p,1,none⟩ v) φ∧((X.setCell ⟨p,0,none⟩ c).setCell ⟨p,1,none⟩ v).cell? ⟨w.heap.size,0,none⟩=some kv:=by
 have k:=Keep.setCell (Keep.setCell (N.keep (fun b=>b≠p)) (p:=⟨p,0,none⟩) (.inr (by simp)) c) (p:=⟨p,1,none⟩) (.inr (by simp)) v
 refine⟨by simpa using blk_set (blk_set P 0 c) 1 v,Keep.setCell (Keep.setCell h.2 (.inl (by show w.heap.size≤p;omega)) _) (.inl (by show w.heap.size≤p;omega)) _,hlt,hd.step k.size (fun i hi ho=>k.block i hi (hok i hi ho).2) fun i hi ho=>hok i hi ho,?_⟩
 have k2:=Keep.setCell (Keep.setCell (Keep.refl (fun b=>b≠p) X) (p:=⟨p,0,none⟩) (.inr (by simp)) c) (p:=⟨p,1,none⟩) (.inr (by simp)) v
 exact k2.cell h.1 (show w.heap.size≠p by omega)
theorem holdS{W w':World}{B p i:Nat}{a u:Value}(h:w'.cell? ⟨B,0,none⟩=some a∧New W w')(hne:B≠p)(hp:W.heap.size≤p):(w'.setCell ⟨p,i,none⟩ u).cell? ⟨B,0,none⟩=some a∧New W (w'.setCell ⟨p,i,none⟩ u):=
 ⟨((Keep.refl (fun b=>b≠p) w').setCell (p:=⟨p,i,none⟩) (.inr (by simp)) u).cell h.1 hne,h.2.setCell (.inl hp) u⟩
theorem hold1{W w' w'':World}{B:Nat}{a:Value}(h:w'.cell? ⟨B,0,none⟩=some a∧New W w')(k:New w' w''):w''.cell? ⟨B,0,none⟩=some a∧New W w'':=⟨k.cell h.1 trivial,h.2.trans k⟩
theorem numbered_one(FX:FixOK)(k:Int)(code:UInt8)(s:Nat)(hs:s≤8)(hk:(codedL.lookup k).getD 0=(code.toNat:Int))(hf:fixedV k=s)(h4:(k==4)=false)(h5:(k==5)=false)(h8:(k==8)=false)(h9:(k==9)=false)
 (n:Nat) (hn:n<18446744073709551616) (t:List UInt8) (A1 A2:Option Addr) (a c1 b c2:Nat) (o:Int) (w:World):
 Calls Tryz.prog 85 #[.agg #[.int .i64 k,.int .u64 (n:Int),.string ⟨t.toArray⟩,.slice A1 a c1,.int .i64 o,.slice A2 b c2]] w fun e w'=>∃sl,e=.returned sl∧New w w'∧RowG 143 2 Pcs w' w.heap.size sl [(code,beB s n)]:=by
 have hc1:=fun w=>coded_is k w
 have hc2:=fun w=>FX k w
 have hc3:=fun w=>big_is n s hn hs w
 rw [hk]at hc1
 rw [hf]at hc2
 have H1:=Lib.hid hc1
 have H2:=Lib.hid hc2
 have H3:=Lib.hid hc3
 have q0:=(blk_cell (blk_new w (.cells #[.int .i64 k,.int .u64 (n:Int),.string ⟨t.toArray⟩,.slice A1 a c1,.int .i64 o,.slice A2 b c2] 78)) 0).trans rfl
 have q1:=(blk_cell (blk_new w (.cells #[.int .i64 k,.int .u64 (n:Int),.string ⟨t.toArray⟩,.slice A1 a c1,.int .i64 o,.slice A2 b c2] 78)) 1).trans rfl
 clear hc1 hc2 hc3 hk hf FX
 go_enter Tryz.func85,Tryz.ntmps85
 go_wp2_with fail
 go_quiet (fail)
 go_wp2_with fail
 go_upto_region 2 with fail
 go_cut [5] (fun s5 wc=>∃(p:Nat) (v:Value),s5=.pointer (some ⟨p,0,none⟩)∧wc.heap[p]? =some (.cells #[.int .i64 (code.toNat:Int),v] 143 (0,0))∧New w wc∧w.heap.size<p∧Dep (fun b=>w.heap.size≤b∧b≠p) wc (fun w=>SlB w v (beB s n))∧wc.cell? ⟨w.heap.size,0,none⟩=some (.int .i64 k))
 case first=>
  go_region_held3 (fun w'=>w'.cell? ⟨w.heap.size,0,none⟩=some (.int .i64 k)∧New w w')
   (first | exact sb | exact sc | exact sf | exact hold1 sb ((Keep.refl _ _).alloc _) | exact hold1 sc ((Keep.refl _ _).alloc _) | exact hold1 sf ((Keep.refl _ _).alloc _) | exact holdS (holdS sb (by omega) (by omega)) (by omega) (by omega) | exact holdS (holdS sc (by omega) (by omega)) (by omega) (by omega) | exact holdS (holdS sf (by omega) (by omega)) (by omega) (by omega) | exact hold1 (by assumption) ((Keep.refl _ _).alloc _) | exact⟨q0,(((Keep.refl _ w).alloc _).drewN _).drew⟩)
   (first | (go_at_call 82;refine(H1.out _).mono ?_;rintro e wc ⟨rfl,kc⟩;have sc:=hold1 (by assumption) kc;have zc:=kc.size;(try simp only [World.size_alloc,World.size_drew,drewN_size]at zc);(first | have P:=kc.blk P trivial | have P:=kc.blk (blk_new (w.alloc (.cells #[.int .i64 k,.int .u64 (n:Int),.string ⟨t.toArray⟩,.slice A1 a c1,.int .i64 o,.slice A2 b c2] 78)) (.cells #[.int .i64 0,.slice none 0 0] 143)) trivial | have P:=kc.blk (blk_new _ _) trivial | skip);(try simp only [World.size_alloc,World.size_drew,drewN_size]at P);(try (have P0:=(blk_cell P 0).trans rfl;have P1:=(blk_cell P 1).trans rfl;have F0:=blk_free P 0;have F1:=blk_free P 1))) | (go_at_call 135;refine(H2.out _).mono ?_;rintro e wf ⟨rfl,kf⟩;have sf:=hold1 (by assumption) kf;have zf:=kf.size;(try simp only [World.size_alloc,World.size_drew,drewN_size]at zf);(first | have P:=kf.blk P trivial | have P:=kf.blk (blk_new (w.alloc (.cells #[.int .i64 k,.int .u64 (n:Int),.string ⟨t.toArray⟩,.slice A1 a c1,.int .i64 o,.slice A2 b c2] 78)) (.cells #[.int .i64 0,.slice none 0 0] 143)) trivial | have P:=kf.blk (blk_new _ _) trivial | skip);(try simp only [World.size_alloc,World.size_drew,drewN_size]at P);(try (have P0:=(blk_cell P 0).trans rfl;have P1:=(blk_cell P 1).trans rfl;have F0:=blk_free P 0;have F1:=blk_free P 1))) | (go_at_call 133;refine(H3.out _).mono ?_;rintro e wb ⟨v,rfl,kb,hrb⟩;have sb:=hold1 (by assumption) kb;have zb:=kb.size;(try simp only [World.size_alloc,World.size_drew,drewN_size]at zb);(first | have P:=kb.blk P trivial | have P:=kb.blk (blk_new (w.alloc (.cells #[.int .i64 k,.int .u64 (n:Int),.string ⟨t.toArray⟩,.slice A1 a c1,.int .i64 o,.slice A2 b c2] 78)) (.cells #[.int .i64 0,.slice none 0 0] 143)) trivial | have P:=kb.blk (blk_new _ _) trivial | skip);(try simp only [World.size_alloc,World.size_drew,drewN_size]at P);(try (have P0:=(blk_cell P 0).trans rfl;have P1:=(blk_cell P 1).trans rfl;have F0:=blk_free P 0;have F1:=blk_free P 1));obtain⟨Av,nv,cv,hv⟩:∃A n c,v=.slice A n c:=(let ⟨A,c,e⟩:=hrb.shape;⟨A,_,c,e⟩);subst hv))
  all_goals (go_wp2_with fail;go_meet;first | exact⟨_,_,rfl,fin_alloc sb hrb.out (Keep.refl _ _) (fun k _ h=>by (try simp only [World.size_alloc,World.size_drew,drewN_size]at h);omega) (by omega) _ _⟩ | exact⟨_,_,rfl,fin_set P sb hrb.out (Keep.refl _ _) (fun k hk h=>by (try simp only [World.size_alloc,World.size_drew,drewN_size]at h);omega) (by omega) _ _⟩ | exact⟨_,_,rfl,fin_alloc sc hrb.out kc (fun k _ h=>by (try simp only [World.size_alloc,World.size_drew,drewN_size]at h);omega) (by omega) _ _⟩ | exact⟨_,_,rfl,fin_set P sc hrb.out kc (fun k hk h=>by (try simp only [World.size_alloc,World.size_drew,drewN_size]at h);omega) (by omega) _ _⟩ | exact⟨_,_,rfl,fin_alloc sc hrb.out (kf.trans kc) (fun k _ h=>by (try simp only [World.size_alloc,World.size_drew,drewN_size]at h);omega) (by omega) _ _⟩ | exact⟨_,_,rfl,fin_set P sc hrb.out (kf.trans kc) (fun k hk h=>by (try simp only [World.size_alloc,World.size_drew,drewN_size]at h);omega) (by omega) _ _⟩)
 case rest=>
  obtain⟨p,v,rfl,hp,kc,hpl,hd,hkc⟩:=hcut
  obtain⟨Av,nv,cv,hv⟩:∃A n c,v=.slice A n c:=(let ⟨A,c,e,_⟩:=hd.here;⟨A,_,c,e⟩)
  subst hv
  have p0:=(blk_cell hp 0).trans rfl
  have p1:=(blk_cell hp 1).trans rfl
  have hkc2:=cell_alloc hkc (.cells #[.int .i64 (code.toNat:Int),.slice Av nv cv] 143)
  have kN:=(Keep.refl (fun _=>True) wc).alloc (.cells #[.int .i64 (code.toNat:Int),.slice Av nv cv] 143)
  have hsz:=kc.size
  have HD:=Lib.hid hd
  clear hp hd H1 H2 H3
  go_wp2
  go_ret
  refine⟨_,rfl,kc.trans kN,[.int .i64 (code.toNat:Int),.slice Av nv cv],⟨rfl,.inr ⟨wc.heap.size,1,#[.int .i64 (code.toNat:Int),.slice Av nv cv],rfl,hsz,blk_new wc _,Nat.le_refl _,by unfold maxLen;omega,rfl,rfl⟩⟩,?_⟩
  exact(HD.out.step kN.size (fun i hi _=>kN.block i hi trivial) (fun b hb hok=>⟨hok.1,fun e=>by simp [Value.ownBlock]at e;omega⟩)).imp fun w h=>Pcs.cons h.toC .nil
def mapSet(X:World)(m:Nat)(es:Array MapEntry)(c:Nat):World:={ X with heap:=X.heap.setIfInBounds m (.map es c) }
def ent(k v:Int)(b:Nat):MapEntry:={ key:=.int .i64 k,val:=.int .i64 v,born:=b }
theorem upd_gen(X:World)(m:Nat)(es:Array MapEntry)(c:Nat)(k v:Int)(h:X.heap[m]? =some (.map es c))(hk:Instr.findNow (.int .i64) (.int .i64 k) es.toList 0=some none):
 (Instr.mapUpdate 294 (.map (some m)) (.int .i64 k) (.int .i64 v)).run Tryz.prog X=.ok () (mapSet X m (es.push (ent k v c)) (c+1)):=by
 have hf:(Instr.findKey 3 (.int .i64 k) es.toList).run Tryz.prog X=.ok none X:=by
  unfold Instr.findKey
  simp only [Sem.run_bind,run_underlying Tryz.underlying3,Result.andThen_ok,hk]
  rfl
 simp only [Instr.mapUpdate,Sem.run_bind,run_underlying Tryz.underlying294,Result.andThen_ok,getObj,Sem.run,h,check_int,hf,setObj]
 rfl
theorem look_gen(X:World)(m:Nat)(es:Array MapEntry)(c:Nat)(k:Int)(j:Nat)(v:Int)(h:X.heap[m]? =some (.map es c))(hk:Instr.findNow (.int .i64) (.int .i64 k) es.toList 0=some (some (j,.int .i64 v))):
 (Instr.lookup 294 (.map (some m)) (.int .i64 k) false).run Tryz.prog X=.ok (.int .i64 v) X:=by
 simp only [Instr.lookup,Sem.run_bind,run_underlying Tryz.underlying294,Result.andThen_ok,getObj,h,Sem.run_pure]
 simp only [Sem.run,h,Result.andThen_ok,Sem.run_pure,check_int,Sem.run_bind,Instr.findKey,run_underlying Tryz.underlying3,hk]
 rfl
theorem find_one(k a x:Int)(b:Nat)(h:k≠a):Instr.findNow (.int .i64) (.int .i64 k) [ent a x b] 0=some none:=by
 have hb:(k==a)=false:=by simpa using h
 simp [Instr.findNow,ent,Instr.sameNow,hb]
theorem push_set(a:Array Obj)(x y:Obj):(a.push x).setIfInBounds a.size y=a.push y:=by
 apply Array.ext_getElem?
 intro i
 rw [Array.getElem?_setIfInBounds]
 by_cases h:a.size=i
 ·subst h
  simp
 ·rw [if_neg h,Array.getElem?_push,Array.getElem?_push,if_neg (fun e=>h e.symm),if_neg (fun e=>h e.symm)]
theorem mapSet_alloc(X:World)(es es':Array MapEntry)(c c':Nat):mapSet (X.alloc (.map es c)) X.heap.size es' c'=X.alloc (.map es' c'):=by
 show({ X.alloc (.map es c)with heap:=(X.heap.push (.map es c)).setIfInBounds X.heap.size (.map es' c') }:World)=_
 rw [push_set]
 rfl
theorem ins_new(X:World)(k v:Int):(Instr.mapUpdate 294 (.map (some X.heap.size)) (.int .i64 k) (.int .i64 v)).run Tryz.prog (X.alloc (.map #[] 0))=.ok () (X.alloc (.map #[ent k v 0] 1)):=by
 rw [upd_gen _ _ #[] 0 k v (blk_new X _) rfl,mapSet_alloc]
 rfl
theorem ins_two(X:World)(k v a x:Int)(h:k≠a):(Instr.mapUpdate 294 (.map (some X.heap.size)) (.int .i64 k) (.int .i64 v)).run Tryz.prog (X.alloc (.map #[ent a x 0] 1))=.ok () (X.alloc (.map #[ent a x 0,ent k v 1] 2)):=by
 rw [upd_gen _ _ _ 1 k v (blk_new X _) (find_one k a x 0 h),mapSet_alloc]
 rfl
end Go.Proofs.YtfoegolfadhmjaaGreatDoor
