/- Arrays of numbers as values. -/
import Derived.Test.YtfoegolfadhmjaaGreatDoorZ03
set_option linter.all false
set_option maxRecDepth 100000
set_option maxHeartbeats 40000000
namespace Go.Proofs.YtfoegolfadhmjaaGreatDoor
open Go.RowKit Go.WideShapes
theorem own_keep{w w':World}{base n:Nat}{v:Value}{xs:List Value}(h:w.ownsRow base 78 6 v n xs)(k:New w w'):w'.ownsRow base 78 6 v n xs:=by
 obtain⟨h1,h2⟩:=h
 refine⟨h1,?_⟩
 rcases h2 with h2 | ⟨g,cap,cur,hv,hg,hb,hr⟩
 ·exact .inl h2
 ·exact .inr ⟨g,cap,cur,hv,hg,k.blk hb trivial,hr⟩
theorem own_near{w w':World}{base n:Nat}{v:Value}{xs:List Value}(h:w.ownsRow base 78 6 v n xs)(k:Keep (fun b=>base≤b) w w'):w'.ownsRow base 78 6 v n xs:=by
 obtain⟨h1,h2⟩:=h
 refine⟨h1,?_⟩
 rcases h2 with h2 | ⟨g,cap,cur,hv,hg,hb,hr⟩
 ·exact .inl h2
 ·exact .inr ⟨g,cap,cur,hv,hg,k.blk hb hg,hr⟩
theorem own_shape{w:World}{base n:Nat}{v:Value}{xs:List Value}(h:w.ownsRow base 78 6 v n xs):∃A c,v=.slice A n c:=by
 rcases h.2 with⟨rfl,rfl⟩ | ⟨g,cap,cur,rfl,_⟩
 ·exact⟨none,0,rfl⟩
 ·exact⟨_,cap,rfl⟩
theorem own_far{w:World}{base n:Nat}{v:Value}{xs:List Value}(h:w.ownsRow base 78 6 v n xs)(k:Nat)(hk:k<base):some k≠v.ownBlock:=by
 rcases h.2 with⟨rfl,rfl⟩ | ⟨g,cap,cur,rfl,hg,_⟩
 ·intro e;cases e
 ·intro e
  injection e with e
  simp at e
  omega
theorem step_append_eq{P:Program}{ops:Array Oper}{o:Oper}{a:Act}{w w':World}{K:Act→World→Prop}{Q:Exit→Act→World→Prop}{E:Prop}{t:TypeId}{v u r:Value}(hr:(Builtin.append_ #[t,t] o.type #[v,u]).run P w=.ok r w')(hgd:o.guard=none)(s x:Operand)
 (ho:o.op=.call { callee:=.builtin .append,args:=#[s,x],argTypes:=#[t,t] }) (hs:a.eval s=v) (hx:a.eval x=u) (h:K (a.put o.dst r) w'):if Region.wanted o (yielded ops a.tmps)=true then Oper.wp P o a w K Q else E:=by
 have hw:Region.wanted o (yielded ops a.tmps)=true:=by simp [Region.wanted,hgd]
 rw [if_pos hw]
 unfold Oper.wp execOp
 simp only [ho,resolve,invoke,builtin,Sem.run_bind,Sem.run_pure,Result.andThen_ok,List.map_toArray,List.map_cons,List.map_nil,hs,hx,hr]
 exact h
def plainKids(k:Int)(l:List (Nat×List UInt8)):List V:=l.map fun x=>.mk k x.1 x.2 [] 0 []
def plainCells(k:Int)(l:List (Nat×List UInt8)):List Value:=(l.map fun x=>[Value.int .i64 k,.int .u64 (x.1:Int),.string ⟨x.2.toArray⟩,.slice none 0 0,.int .i64 0,.slice none 0 0]).flatten
theorem plain_mem(w:World)(k:Int):∀(l:List (Nat×List UInt8)),(∀x∈l,x.1<18446744073709551616)→Mem w (plainKids k l) (plainCells k l)
 | [],_=>.nil
 | x::l,h=>(mem_plain w k x.1 x.2 (h x (List.mem_cons_self ..))).append (plain_mem w k l fun y hy=>h y (List.mem_cons_of_mem _ hy))
theorem numbered(fn clo:FuncId)(et:TypeId)(hq:(fn,clo,et)∈[(153,147,4),(156,157,117),(158,159,22),(160,161,26),(162,163,191),(164,165,195),(166,167,21),(168,169,2),(170,171,212)])(C:Nat→Value)(ok:Nat→Prop)(hok:∀x,ok x→x<18446744073709551616)(hL:∀x,ok x→∀w,Calls Tryz.prog clo #[C x] w fun e w'=>e=.returned (.int .u64 x)∧New w w')(k:Int)(ns:List Nat)(hns:∀x∈ns,ok x)(hmax:ns.length≤1000)(d:Nat)(w:World)(hd:w.heap[d]? =some (.cells (ns.map C).toArray et (0,0))):
 Calls Tryz.prog fn #[.int .i64 k,.slice (some ⟨d,0,none⟩) ns.length ns.length,.func (.func clo) #[] #[]] w fun e w'=>∃sk,e=.returned (.agg #[.int .i64 23,.int .u64 0,.string ⟨#[]⟩,sk,.int .i64 k,.slice none 0 0])∧New w w'∧
  w'.ownsRow (w.heap.size+2) 78 6 sk ns.length (plainCells k (ns.map fun x=>(x,[]))):=by
 obtain⟨n,hn⟩:∃n,n=ns.length:=⟨_,rfl⟩
 rw [←hn]at hmax ⊢
 have N:=Lib.hid hn
 have HD:=Lib.hid hd
 have HNS:=Lib.hid hns
 have HL:=Lib.hid hL
 have HX64:=Lib.hid hok
 clear hn hd hns hL hok
 simp only [List.mem_cons,List.mem_nil_iff,or_false,Prod.mk.injEq]at hq
 rcases hq with⟨rfl,rfl,rfl⟩ | ⟨rfl,rfl,rfl⟩ | ⟨rfl,rfl,rfl⟩ | ⟨rfl,rfl,rfl⟩ | ⟨rfl,rfl,rfl⟩ | ⟨rfl,rfl,rfl⟩ | ⟨rfl,rfl,rfl⟩ | ⟨rfl,rfl,rfl⟩ | ⟨rfl,rfl,rfl⟩
 all_goals
  first
   | go_enter Tryz.func153,Tryz.ntmps153
   | go_enter Tryz.func156,Tryz.ntmps156
   | go_enter Tryz.func158,Tryz.ntmps158
   | go_enter Tryz.func160,Tryz.ntmps160
   | go_enter Tryz.func162,Tryz.ntmps162
   | go_enter Tryz.func164,Tryz.ntmps164
   | go_enter Tryz.func166,Tryz.ntmps166
   | go_enter Tryz.func168,Tryz.ntmps168
   | go_enter Tryz.func170,Tryz.ntmps170
  go_wp2_with fail
  go_loopg [14] n (fun m s14 wr=>∃(j:Nat) (sk:Value),j+m=n∧s14=.int .i64 (j:Int)∧New w wr∧wr.heap[w.heap.size]? =some (.cells #[.int .i64 0,.int .u64 0,.string ⟨#[]⟩,.slice none 0 0,.int .i64 0,.slice none 0 0] 78 (0,0))∧wr.heap[w.heap.size+1]? =some (.cells #[.int .i64 23,.int .u64 0,.string ⟨#[]⟩,sk,.int .i64 k,.slice none 0 0] 78 (0,0))∧wr.ownsRow (w.heap.size+2) 78 6 sk j (plainCells k ((ns.take j).map fun x=>(x,[]))))
  case atStart=>
   refine⟨0,.slice none 0 0,by omega,rfl,((Keep.refl _ _).alloc _).alloc _,blk_alloc (blk_new w _) _,?_,rfl,.inl ⟨rfl,rfl⟩⟩
   simpa using blk_new (w.alloc (.cells #[.int .i64 0,.int .u64 0,.string ⟨#[]⟩,.slice none 0 0,.int .i64 0,.slice none 0 0] 78)) (.cells #[.int .i64 23,.int .u64 0,.string ⟨#[]⟩,.slice none 0 0,.int .i64 k,.slice none 0 0] 78)
  case round=>
   obtain⟨j,sk,hj,rfl,kr,hv0,hv,hown⟩:=hrel
   cases gk with
   | zero=>
     obtain rfl:j=n:=by omega
     have hsh:=own_shape hown
     obtain⟨A,cc,rfl⟩:=hsh
     have c0:=(blk_cell hv 0).trans rfl
     have e0:=(blk_cell hv0 0).trans rfl
     have f0:=blk_free hv0 0
     have c1:=(blk_cell hv 1).trans rfl
     have e1:=(blk_cell hv0 1).trans rfl
     have f1:=blk_free hv0 1
     have c2:=(blk_cell hv 2).trans rfl
     have e2:=(blk_cell hv0 2).trans rfl
     have f2:=blk_free hv0 2
     have c3:=(blk_cell hv 3).trans rfl
     have e3:=(blk_cell hv0 3).trans rfl
     have f3:=blk_free hv0 3
     have c4:=(blk_cell hv 4).trans rfl
     have e4:=(blk_cell hv0 4).trans rfl
     have f4:=blk_free hv0 4
     have c5:=(blk_cell hv 5).trans rfl
     have e5:=(blk_cell hv0 5).trans rfl
     have f5:=blk_free hv0 5
     have hown':=own_near hown ((((((((Keep.refl (fun b=>w.heap.size+2≤b) wr).setCell (p:=⟨w.heap.size,0,none⟩) (.inr (by simp)) (.int .i64 23)).setCell (p:=⟨w.heap.size,1,none⟩) (.inr (by simp)) (.int .u64 0)).setCell (p:=⟨w.heap.size,2,none⟩) (.inr (by simp)) (.string ⟨#[]⟩)).setCell (p:=⟨w.heap.size,3,none⟩) (.inr (by simp)) (.slice A j cc)).setCell (p:=⟨w.heap.size,4,none⟩) (.inr (by simp)) (.int .i64 k)).setCell (p:=⟨w.heap.size,5,none⟩) (.inr (by simp)) (.slice none 0 0)))
     have HO:=Lib.hid hown'
     clear hv hv0 hown hown'
     go_wp2
     refine bodyPost_ret (v:=.agg #[.int .i64 23,.int .u64 0,.string ⟨#[]⟩,.slice A j cc,.int .i64 k,.slice none 0 0]) (by simp [results,Tryz.results153,Tryz.results156,Tryz.results158,Tryz.results160,Tryz.results162,Tryz.results164,Tryz.results166,Tryz.results168,Tryz.results170,go_sem,e0,e1,e2,e3,e4,e5]) rfl ⟨_,rfl,?_,?_⟩
     ·repeat (refine Keep.setCell ?_ (Or.inl (b:=¬True) (Nat.le_refl _)) _)
      exact kr
     ·have:=HO.out
      rw [N.out,List.take_length]at this
      rw [N.out]
      exact this
   | succ m=>
     have hjn:j<n:=by omega
     have tj:decide ((j:Int)<n)=true:=by simpa using hjn
     have e4:(j:Int)<n:=by omega
     have hjx:j<ns.length:=by rw [←N.out];exact hjn
     obtain⟨x,hx⟩:∃x,x=ns[j]'hjx:=⟨_,rfl⟩
     have hcx:wr.cell? ⟨d,j,none⟩=some (C x):=by
      rw [blk_cell (kr.blk HD.out trivial),hx]
      simp [hjx]
     have c3:wr.cell? ⟨w.heap.size+1,3,none⟩=some sk:=(blk_cell hv 3).trans rfl
     have f3:=blk_free hv 3
     have hx2:=HNS.out _ (List.getElem_mem hjx)
     rw [←hx]at hx2
     have HX:=Lib.hid hx
     clear hx
     obtain⟨A,cc,rfl⟩:=own_shape hown
     have hv':New wr wr.drew:=(Keep.refl _ wr).drew
     have hsz:=lt_blk hv
     go_wp2_with fail
     go_region_law
      (first | (go_simp;(first | go_at_call 147 | go_at_call 157 | go_at_call 159 | go_at_call 161 | go_at_call 163 | go_at_call 165 | go_at_call 167 | go_at_call 169 | go_at_call 171);refine(HL.out x hx2 _).mono ?_;rintro e w4 ⟨rfl,k4⟩;have c34:=(hv'.trans k4).cell c3 trivial;have c35:=cell_alloc c34 (.cells #[.int .i64 k,.int .u64 (x:Int),.string ⟨#[]⟩,.slice none 0 0,.int .i64 0,.slice none 0 0] 78);have k45:New wr (w4.alloc (.cells #[.int .i64 k,.int .u64 (x:Int),.string ⟨#[]⟩,.slice none 0 0,.int .i64 0,.slice none 0 0] 78)):=((hv'.trans k4).alloc _);obtain⟨g5,c5,w5,hap,hown5,k5⟩:=append_val (w4.alloc (.cells #[.int .i64 k,.int .u64 (x:Int),.string ⟨#[]⟩,.slice none 0 0,.int .i64 0,.slice none 0 0] 78)) (w.heap.size+2) (.slice A j cc) j _ (own_keep hown k45) w4.heap.size 1 [.int .i64 k,.int .u64 (x:Int),.string ⟨#[]⟩,.slice none 0 0,.int .i64 0,.slice none 0 0] rfl (blk_new _ _) (by simp [Value.oneCell']) (by omega) (by have:=k45.size;omega);have far:=own_far hown;have hv5:=k5.blk (k45.blk hv trivial) (far _ (by omega));have f5:=blk_free hv5 3;have c5':w5.cell? ⟨w.heap.size+1,3,none⟩=some (.slice A j cc):=(blk_cell hv5 3).trans rfl) | (refine step_append_eq hap (by rfl) _ _ (by rfl) (by rfl) (by rfl) ?_))
     all_goals
      go_wp2
      go_roundg m
      case measure=>omega
      case rel=>
       have hl5:=lt_blk hv5
       have hcs:plainCells k ((ns.take (j+1)).map fun x=>(x,[]))=plainCells k ((ns.take j).map fun x=>(x,[]))++[.int .i64 k,.int .u64 (x:Int),.string ⟨#[]⟩,.slice none 0 0,.int .i64 0,.slice none 0 0]:=by
        rw [←List.take_append_getElem hjx,←HX.out]
        simp [plainCells]
       refine⟨j+1,.slice (some ⟨g5,0,none⟩) (j+1) c5,by omega,congrArg _ (by omega),((kr.trans k45).then k5 (fun i hi _=>far i (by omega))).setCell (p:=⟨w.heap.size+1,3,none⟩) (Or.inl (b:=¬True) (Nat.le_succ _)) _,?_,?_,?_⟩
       ·exact blk_far (k5.blk (k45.blk hv0 trivial) (far _ (by omega))) (p:=⟨w.heap.size+1,3,none⟩) (by simp) _
       ·exact(blk_set hv5 3 _).trans (by simp)
       ·rw [hcs]
        exact own_near hown5 ((Keep.refl (fun b=>w.heap.size+2≤b) w5).setCell (p:=⟨w.heap.size+1,3,none⟩) (.inr (by simp)) _)
theorem lit157(n:Nat)(h:n<65536)(w:World):Calls Tryz.prog 157 #[.int .u16 n] w fun e w'=>e=.returned (.int .u64 n)∧New w w':=by
 have hu:=u64n (n:=n) (by omega)
 go_enter Tryz.func157,Tryz.ntmps157
 go_wp2
 go_ret
 exact⟨rfl,Keep.refl _ _⟩
theorem lit159(n:Nat)(h:n<4294967296)(w:World):Calls Tryz.prog 159 #[.int .u32 n] w fun e w'=>e=.returned (.int .u64 n)∧New w w':=by
 have hu:=u64n (n:=n) (by omega)
 go_enter Tryz.func159,Tryz.ntmps159
 go_wp2
 go_ret
 exact⟨rfl,Keep.refl _ _⟩
theorem lit161(n:Nat)(h:n<18446744073709551616)(w:World):Calls Tryz.prog 161 #[.int .u64 n] w fun e w'=>e=.returned (.int .u64 n)∧New w w':=by
 have hu:=u64n (n:=n) (by omega)
 go_enter Tryz.func161,Tryz.ntmps161
 go_wp2
 go_ret
 exact⟨rfl,Keep.refl _ _⟩
theorem lit163(n:Nat)(h:Fits 8 n)(w:World):Calls Tryz.prog 163 #[.int .i8 (sgn n)] w fun e w'=>e=.returned (.int .u64 n)∧New w w':=by
 have hu:=u64s h.1
 go_enter Tryz.func163,Tryz.ntmps163
 go_wp2
 go_ret
 exact⟨rfl,Keep.refl _ _⟩
theorem lit165(n:Nat)(h:Fits 16 n)(w:World):Calls Tryz.prog 165 #[.int .i16 (sgn n)] w fun e w'=>e=.returned (.int .u64 n)∧New w w':=by
 have hu:=u64s h.1
 go_enter Tryz.func165,Tryz.ntmps165
 go_wp2
 go_ret
 exact⟨rfl,Keep.refl _ _⟩
theorem lit167(n:Nat)(h:Fits 32 n)(w:World):Calls Tryz.prog 167 #[.int .i32 (sgn n)] w fun e w'=>e=.returned (.int .u64 n)∧New w w':=by
 have hu:=u64s h.1
 go_enter Tryz.func167,Tryz.ntmps167
 go_wp2
 go_ret
 exact⟨rfl,Keep.refl _ _⟩
theorem lit169(n:Nat)(h:Fits 64 n)(w:World):Calls Tryz.prog 169 #[.int .i64 (sgn n)] w fun e w'=>e=.returned (.int .u64 n)∧New w w':=by
 have hu:=u64s h.1
 go_enter Tryz.func169,Tryz.ntmps169
 go_wp2
 go_ret
 exact⟨rfl,Keep.refl _ _⟩
theorem lit171(n:Nat)(h:n<4294967296)(w:World):Calls Tryz.prog 171 #[.float .f32 n] w fun e w'=>e=.returned (.int .u64 n)∧New w w':=by
 have hu:=u64n (n:=n) (by omega)
 go_enter Tryz.func171,Tryz.ntmps171
 go_wp2
 go_ret
 exact⟨rfl,Keep.refl _ _⟩
theorem litFlag(n:Nat)(h:n≤1)(w:World):Calls Tryz.prog 147 #[.bool (n !=0)] w fun e w'=>e=.returned (.int .u64 n)∧New w w':=by
 refine(flag_is (n !=0) w).mono ?_
 rintro e w' ⟨rfl,k⟩
 refine⟨?_,k⟩
 match n,h with
 | 0,_=>rfl
 | 1,_=>rfl
end Go.Proofs.YtfoegolfadhmjaaGreatDoor
