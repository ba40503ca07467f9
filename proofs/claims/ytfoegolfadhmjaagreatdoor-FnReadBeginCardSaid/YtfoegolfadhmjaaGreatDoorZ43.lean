/- Properties, as pairs; New and few at what was read. -/
import Derived.Test.YtfoegolfadhmjaaGreatDoorZ37
set_option linter.all false
set_option maxRecDepth 100000
set_option maxHeartbeats 4000000
namespace Go.Proofs.YtfoegolfadhmjaaGreatDoor
open Go.RowKit Go.WideShapes
theorem RowS.strs{w:World}{base:Nat}{sk:Value}{ts:List (List UInt8)}(h:RowS w base sk ts)(hn:ts.length≤1000000):Dep (fun b=>base≤b) w (fun w=>Strs w ts sk):=by
 obtain⟨h1,h2⟩:=h
 intro w' k
 rcases h2 with⟨rfl,h2⟩ | ⟨g,cap,cur,rfl,hg,hb,hc,hm,hs,ht⟩
 ·obtain rfl:=List.eq_nil_of_length_eq_zero h2
  exact SlF.nil
 ·have hat:∀j (hj:j<ts.length),cur[j]? =some (.string ⟨ts[j].toArray⟩):=fun j hj=>by
   have:(cur.toList.take (ts.length*1))[j]? =(ts.map fun t=>Value.string ⟨t.toArray⟩)[j]? :=by rw [ht]
   rw [List.getElem?_take_of_lt (by omega),Array.getElem?_toList]at this
   rw [this]
   simp [hj]
  refine⟨_,cap,rfl,by first | assumption | omega,by first | omega | (unfold maxLen at *;omega),fun _=>⟨g,0,rfl,fun j hj=>?_⟩⟩
  rw [Nat.zero_add,blk_cell ((k g (lt_blk hb) hg).trans hb)]
  exact hat j hj
theorem symTexts_is(ts:List (List UInt8))(hmax:ts.length≤1000000)(w:World)(s:Value)(hs:Strs w ts s):
 Calls Tryz.prog 77 #[s] w fun e w'=>∃A n c,e=.returned (.slice A n c)∧New w w'∧Dep (fun b=>w.heap.size≤b) w' (fun w=>Strs w ts (.slice A n c)):=by
 obtain⟨A0,c0,rfl,h1,h2,h3⟩:=hs
 obtain⟨n,hn⟩:∃n,n=ts.length:=⟨_,rfl⟩
 rw [←hn]at h1 hmax ⊢
 have N:=Lib.hid hn
 have HAT:=Lib.hid h3
 clear h3 hn
 go_enter Tryz.func77,Tryz.ntmps77
 go_wp2_with fail
 go_loopg [3,8] n (fun m s3 s8 wr=>∃j:Nat,j+m=n∧s8=.int .i64 (j:Int)∧New w wr∧RowS wr w.heap.size s3 (ts.take j))
 case atStart=>exact⟨0,by omega,rfl,Keep.refl _ _,by simpa using RowS.nil⟩
 case round=>
  obtain⟨j,hj,rfl,kr,hrow⟩:=hrel
  have hjl:(ts.take j).length=j:=by rw [List.length_take,←N.out];omega
  obtain⟨A,cc,rfl⟩:=hrow.shape
  rw [hjl]at hrow ⊢
  cases gk with
  | zero=>
    obtain rfl:j=n:=by omega
    have HO:=Lib.hid hrow
    clear hrow
    go_wp2
    go_ret
    refine⟨A,_,cc,rfl,kr,?_⟩
    have h:=HO.out
    rw [N.out,List.take_length]at h
    rw [N.out]
    exact RowS.strs h (by rw [←N.out];exact hmax)
  | succ m=>
    have hjn:j<n:=by omega
    have tj:decide ((j:Int)<n)=true:=by simpa using hjn
    have e4:(j:Int)<n:=by omega
    have hjx:j<ts.length:=by rw [←N.out];exact hjn
    obtain⟨d,i,hA,hat⟩:=HAT.out (fun h=>by rw [h]at hjx;simp at hjx)
    subst hA
    obtain⟨x,hx⟩:∃x,x=ts[j]'hjx:=⟨_,rfl⟩
    have hcx:=kr.cell (hat j hjx) trivial
    rw [←hx]at hcx
    have HX:=Lib.hid hx
    have hsz:=kr.size
    have kA:=(Keep.refl (fun _=>True) wr).alloc (.cells #[.string ⟨x.toArray⟩] 9)
    obtain⟨g5,c5,w5,hap,hrow5,k5⟩:=(hrow.keep kA (fun _ _=>trivial)).step x wr.heap.size 1 (blk_new _ _) (by rw [hjl];omega) (by have:=kA.size;omega)
    rw [hjl]at hap hrow5
    have HAP:=Lib.hid hap
    have HO5:=Lib.hid hrow5
    have K5:=Lib.hid ((kr.trans kA).then k5 (fun i hi _=>hrow.far i (by omega)))
    clear hx hap hrow5 k5 hrow hat hjl
    go_wp2_with (at_builtin;refine wpList_append_eq rfl _ _ 52 rfl _ _ _ _ rfl rfl HAP.out ?_)
    go_roundg m
    case measure=>omega
    case rel=>
     refine⟨j+1,by omega,congrArg _ (by omega),K5.out,?_⟩
     rw [←List.take_append_getElem hjx,←HX.out]
     exact HO5.out
theorem symPairs_nil(k:Int)(w:World):Calls Tryz.prog 75 #[.int .i64 k,.map none] w fun e w'=>e=.returned (.tuple #[.slice none 0 0,.bool true])∧New w w':=by
 have hrg:=range_nil w 111 158 20 Tryz.underlying111
 go_enter Tryz.func75,Tryz.ntmps75
 go_wp2_with fail
 go_loopg [6] 0 (fun kk s6 wr=>s6=.slice none 0 0∧New w wr∧wr.heap[w.heap.size]? =some (.mapIter none 0 #[] 0))
 case atStart=>exact⟨rfl,(Keep.refl _ _).alloc _,blk_new _ _⟩
 case round=>
  obtain⟨rfl,kr,hit⟩:=hrel
  have hnx:=next_nil wr w.heap.size hit
  go_wp2_with fail
  refine(Tryz.sort_Strings_none none 0 wr).mono ?_
  rintro e w2 ⟨rfl,rfl⟩
  go_wp2_with fail
  go_loopg [8,27] 0 (fun kk s8 s27 wq=>s8=.slice none 0 0∧s27=.int .i64 0∧New w wq)
  case atStart=>exact⟨rfl,rfl,kr⟩
  case round=>
   obtain⟨rfl,rfl,kq⟩:=hrel
   go_wp2
   go_ret2
   exact⟨rfl,kq⟩
def PropV(w:World)(ps:List (V×V))(s:Value):Prop:=
 (s=.map none∧ps=[])∨∃m es clock,s=.map (some m)∧TMap w m es clock ps∧ps.length≤1000∧∀q∈ps,∃k0 o,q.1=.mk k0 0 q.1.text [] o []∧(k0=20∨k0=20∧(20:Int)=19)
theorem PropV.pairs{w:World}{ps:List (V×V)}{s:Value}(h:PropV w ps s):Calls Tryz.prog 75 #[.int .i64 20,s] w fun e w'=>∃A n c us qs,e=.returned (.tuple #[.slice A n c,.bool true])∧New w w'∧ps.Perm qs∧Sims (flat2 qs) us∧us.length=2*ps.length∧Dep (fun b=>w.heap.size≤b) w' (fun w=>LM w us (.slice A n c)):=by
 rcases h with⟨rfl,rfl⟩ | ⟨m,es,clock,rfl,hM,hl,hk⟩
 ·refine(symPairs_nil 20 w).mono ?_
  rintro e w' ⟨rfl,k⟩
  exact⟨_,_,_,[],[],rfl,k,List.Perm.refl _,.nil,rfl,fun _ _=>LM.nil⟩
 ·refine(textPairs_sym 20 (.inr rfl) m es clock ps w hM hl hk).mono ?_
  rintro e w' ⟨s',us,qs,rfl,k,hp,hs,hu,hd⟩
  obtain⟨A,c,rfl,-⟩:=hd.here.shape
  exact⟨A,_,c,us,qs,rfl,k,hp,hs,hu,hd⟩
def ChanR(w:World)(c:Value)(l:List Nat):Prop:=(c=.pointer none∧l=[])∨∃p n,c=.pointer (some ⟨p,0,none⟩)∧l=[n]∧w.heap[p]? =some (.cells #[.int .u16 (n:Int)] 117 (0,0))
theorem ChanR.new{w w':World}{c:Value}{l:List Nat}(h:ChanR w c l)(k:New w w'):ChanR w' c l:=by
 rcases h with h | ⟨p,n,h1,h2,h3⟩
 ·exact .inl h
 ·exact .inr ⟨p,n,h1,h2,k.blk h3 trivial⟩
theorem few_any(l:List Nat)(c:Value)(w:World)(h:ChanR w c l):Calls Tryz.prog 76 #[c] w fun e w'=>∃A n cc,e=.returned (.slice A n cc)∧New w w'∧Dep (fun b=>w.heap.size≤b) w' (fun w=>U16s w l (.slice A n cc)):=by
 rcases h with⟨rfl,rfl⟩ | ⟨p,n,rfl,rfl,h⟩
 ·refine(few_nil w).mono ?_
  rintro e w' ⟨rfl,rfl⟩
  exact⟨none,0,0,rfl,Keep.refl _ _,fun _ _=>SlF.nil⟩
 ·refine(few_one p n w h).mono ?_
  rintro e w' ⟨rfl,rfl⟩
  refine⟨_,1,1,rfl,(Keep.refl _ _).alloc _,fun w' k=>⟨_,1,rfl,Nat.le_refl _,by omega,fun _=>⟨w.heap.size,0,rfl,fun j hj=>?_⟩⟩⟩
  obtain rfl:j=0:=by simpa using hj
  have hbk:=blk_new w (.cells #[.int .u16 (n:Int)] 117)
  rw [blk_cell ((k _ (lt_blk hbk) (Nat.le_refl _)).trans hbk)]
  rfl
end Go.Proofs.YtfoegolfadhmjaaGreatDoor
