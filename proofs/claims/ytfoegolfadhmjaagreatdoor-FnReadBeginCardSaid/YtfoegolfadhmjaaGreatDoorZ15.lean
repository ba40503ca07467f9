/- spec.lengthed: what stands behind its length. -/
import Derived.Test.YtfoegolfadhmjaaGreatDoorZ08
import Derived.Test.YtfoegolfadhmjaaGreatDoorZ09
import Derived.Test.YtfoegolfadhmjaaGreatDoorZ10
import Derived.Test.YtfoegolfadhmjaaGreatDoorZ14
import Derived.Recover
import Derived.Lib.AppendStr
import Derived.Lib.ValidLaws
set_option linter.all false
set_option maxRecDepth 100000
set_option maxHeartbeats 40000000
namespace Go.Proofs.YtfoegolfadhmjaaGreatDoor
open Go.RowKit Go.WideShapes
theorem lit155(n:Nat)(h:n<256)(w:World):Calls Tryz.prog 155 #[.int .u8 n] w fun e w'=>e=.returned (.int .u64 n)∧New w w':=by
 have hu:=u64n (n:=n) (by omega)
 go_enter Tryz.func155,Tryz.ntmps155
 go_wp2
 go_ret
 exact⟨rfl,Keep.refl _ _⟩
theorem lit180(s:ByteArray)(w:World):Calls Tryz.prog 180 #[.string s] w fun e w'=>e=.returned (.string s)∧New w w':=by
 go_enter Tryz.func180,Tryz.ntmps180
 go_wp2
 go_ret
 exact⟨rfl,Keep.refl _ _⟩
theorem lit178(v:Value)(t:List UInt8)(w:World)(h:SlB w v t):Calls Tryz.prog 178 #[v] w fun e w'=>e=.returned (.string ⟨t.toArray⟩)∧New w w':=by
 have hv:(convert 27 9 v).run Tryz.prog w=.ok (.string ⟨t.toArray⟩) w:=conv_string w v t h
 go_enter Tryz.func178,Tryz.ntmps178
 go_wp2
 go_ret
 exact⟨rfl,Keep.refl _ _⟩
theorem numbered_u8(k:Int)(ns:List UInt8)(hmax:ns.length≤1000)(d i c:Nat)(hc1:ns.length≤c)(hc2:c≤9223372036854775807)(w:World)(hd:BytesAt w d i ns):
 Calls Tryz.prog 154 #[.int .i64 k,.slice (some ⟨d,i,none⟩) ns.length c,.func (.func 155) #[] #[]] w fun e w'=>∃sk,e=.returned (.agg #[.int .i64 23,.int .u64 0,.string ⟨#[]⟩,sk,.int .i64 k,.slice none 0 0])∧New w w'∧
  w'.ownsRow (w.heap.size+2) 78 6 sk ns.length (plainCells k (ns.map fun x=>(x.toNat,[]))):=by
 obtain⟨n,hn⟩:∃n,n=ns.length:=⟨_,rfl⟩
 rw [←hn]at hmax ⊢
 have N:=Lib.hid hn
 have HD:=Lib.hid hd
 clear hn hd
 go_enter Tryz.func154,Tryz.ntmps154
 go_wp2_with fail
 go_loopg [14] n (fun m s14 wr=>∃(j:Nat) (sk:Value),j+m=n∧s14=.int .i64 (j:Int)∧New w wr∧wr.heap[w.heap.size]? =some (.cells #[.int .i64 0,.int .u64 0,.string ⟨#[]⟩,.slice none 0 0,.int .i64 0,.slice none 0 0] 78 (0,0))∧wr.heap[w.heap.size+1]? =some (.cells #[.int .i64 23,.int .u64 0,.string ⟨#[]⟩,sk,.int .i64 k,.slice none 0 0] 78 (0,0))∧wr.ownsRow (w.heap.size+2) 78 6 sk j (plainCells k ((ns.take j).map fun x=>(x.toNat,[]))))
 case atStart=>
  refine⟨0,.slice none 0 0,by omega,rfl,((Keep.refl _ _).alloc _).alloc _,blk_alloc (blk_new w _) _,?_,rfl,.inl ⟨rfl,rfl⟩⟩
  simpa using blk_new (w.alloc (.cells #[.int .i64 0,.int .u64 0,.string ⟨#[]⟩,.slice none 0 0,.int .i64 0,.slice none 0 0] 78)) (.cells #[.int .i64 23,.int .u64 0,.string ⟨#[]⟩,.slice none 0 0,.int .i64 k,.slice none 0 0] 78)
 case round=>
  obtain⟨j,sk,hj,rfl,kr,hv0,hv,hown⟩:=hrel
  cases gk with
  | zero=>
    obtain rfl:j=n:=by omega
    have hsh:=own_shape hown
    obtain⟨A,cc,rfl⟩:=hsh
    have c0:=(blk_cell hv 0).trans rfl
    have e0:=(blk_cell hv0 0).trans rfl
    have f0:=blk_free hv0 0
    have c1:=(blk_cell hv 1).trans rfl
    have e1:=(blk_cell hv0 1).trans rfl
    have f1:=blk_free hv0 1
    have c2:=(blk_cell hv 2).trans rfl
    have e2:=(blk_cell hv0 2).trans rfl
    have f2:=blk_free hv0 2
    have c3:=(blk_cell hv 3).trans rfl
    have e3:=(blk_cell hv0 3).trans rfl
    have f3:=blk_free hv0 3
    have c4:=(blk_cell hv 4).trans rfl
    have e4:=(blk_cell hv0 4).trans rfl
    have f4:=blk_free hv0 4
    have c5:=(blk_cell hv 5).trans rfl
    have e5:=(blk_cell hv0 5).trans rfl
    have f5:=blk_free hv0 5
    have hown':=own_near hown ((((((((Keep.refl (fun b=>w.heap.size+2≤b) wr).setCell (p:=⟨w.heap.size,0,none⟩) (.inr (by simp)) (.int .i64 23)).setCell (p:=⟨w.heap.size,1,none⟩) (.inr (by simp)) (.int .u64 0)).setCell (p:=⟨w.heap.size,2,none⟩) (.inr (by simp)) (.string ⟨#[]⟩)).setCell (p:=⟨w.heap.size,3,none⟩) (.inr (by simp)) (.slice A j cc)).setCell (p:=⟨w.heap.size,4,none⟩) (.inr (by simp)) (.int .i64 k)).setCell (p:=⟨w.heap.size,5,none⟩) (.inr (by simp)) (.slice none 0 0)))
    have HO:=Lib.hid hown'
    clear hv hv0 hown hown'
    go_wp2
    refine bodyPost_ret (v:=.agg #[.int .i64 23,.int .u64 0,.string ⟨#[]⟩,.slice A j cc,.int .i64 k,.slice none 0 0]) (by simp [results,Tryz.results154,go_sem,e0,e1,e2,e3,e4,e5]) rfl ⟨_,rfl,?_,?_⟩
    ·repeat (refine Keep.setCell ?_ (Or.inl (b:=¬True) (Nat.le_refl _)) _)
     exact kr
    ·have:=HO.out
     rw [N.out,List.take_length]at this
     rw [N.out]
     exact this
  | succ m=>
    have hjn:j<n:=by omega
    have tj:decide ((j:Int)<n)=true:=by simpa using hjn
    have e4:(j:Int)<n:=by omega
    have hjx:j<ns.length:=by rw [←N.out];exact hjn
    obtain⟨x,hx⟩:∃x,x=ns[j]'hjx:=⟨_,rfl⟩
    have hcx:wr.cell? ⟨d,i+j,none⟩=some (.int .u8 (x.toNat:Int)):=by
     rw [hx]
     exact(HD.out.new kr).cell j hjx
    have c3:wr.cell? ⟨w.heap.size+1,3,none⟩=some sk:=(blk_cell hv 3).trans rfl
    have f3:=blk_free hv 3
    have HX:=Lib.hid hx
    clear hx
    obtain⟨A,cc,rfl⟩:=own_shape hown
    have hv':New wr wr.drew:=(Keep.refl _ wr).drew
    have hsz:=lt_blk hv
    go_wp2_with fail
    go_region_law
     (first | (go_simp;go_at_call 155;refine(lit155 x.toNat (by have:=x.toNat_lt;omega) _).mono ?_;rintro e w4 ⟨rfl,k4⟩;have c34:=(hv'.trans k4).cell c3 trivial;have c35:=cell_alloc c34 (.cells #[.int .i64 k,.int .u64 (x.toNat:Int),.string ⟨#[]⟩,.slice none 0 0,.int .i64 0,.slice none 0 0] 78);have k45:New wr (w4.alloc (.cells #[.int .i64 k,.int .u64 (x.toNat:Int),.string ⟨#[]⟩,.slice none 0 0,.int .i64 0,.slice none 0 0] 78)):=((hv'.trans k4).alloc _);obtain⟨g5,c5,w5,hap,hown5,k5⟩:=append_val (w4.alloc (.cells #[.int .i64 k,.int .u64 (x.toNat:Int),.string ⟨#[]⟩,.slice none 0 0,.int .i64 0,.slice none 0 0] 78)) (w.heap.size+2) (.slice A j cc) j _ (own_keep hown k45) w4.heap.size 1 [.int .i64 k,.int .u64 (x.toNat:Int),.string ⟨#[]⟩,.slice none 0 0,.int .i64 0,.slice none 0 0] rfl (blk_new _ _) (by simp [Value.oneCell']) (by omega) (by have:=k45.size;omega);have far:=own_far hown;have hv5:=k5.blk (k45.blk hv trivial) (far _ (by omega));have f5:=blk_free hv5 3;have c5':w5.cell? ⟨w.heap.size+1,3,none⟩=some (.slice A j cc):=(blk_cell hv5 3).trans rfl) | (refine step_append_eq hap (by rfl) _ _ (by rfl) (by rfl) (by rfl) ?_))
    all_goals
     go_wp2
     go_roundg m
     case measure=>omega
     case rel=>
      have hl5:=lt_blk hv5
      have hcs:plainCells k ((ns.take (j+1)).map fun x=>(x.toNat,[]))=plainCells k ((ns.take j).map fun x=>(x.toNat,[]))++[.int .i64 k,.int .u64 (x.toNat:Int),.string ⟨#[]⟩,.slice none 0 0,.int .i64 0,.slice none 0 0]:=by
       rw [←List.take_append_getElem hjx,←HX.out]
       simp [plainCells]
      refine⟨j+1,.slice (some ⟨g5,0,none⟩) (j+1) c5,by omega,congrArg _ (by omega),((kr.trans k45).then k5 (fun i hi _=>far i (by omega))).setCell (p:=⟨w.heap.size+1,3,none⟩) (Or.inl (b:=¬True) (Nat.le_succ _)) _,?_,?_,?_⟩
      ·exact blk_far (k5.blk (k45.blk hv0 trivial) (far _ (by omega))) (p:=⟨w.heap.size+1,3,none⟩) (by simp) _
      ·exact(blk_set hv5 3 _).trans (by simp)
      ·rw [hcs]
       exact own_near hown5 ((Keep.refl (fun b=>w.heap.size+2≤b) w5).setCell (p:=⟨w.heap.size+1,3,none⟩) (.inr (by simp)) _)
theorem worded_str(k:Int)(ns:List (List UInt8))(hmax:ns.length≤1000)(d:Nat)(w:World)(hd:w.heap[d]? =some (.cells (ns.map fun (x:List UInt8)=>Value.string ⟨x.toArray⟩).toArray 9 (0,0))):
 Calls Tryz.prog 179 #[.int .i64 k,.slice (some ⟨d,0,none⟩) ns.length ns.length,.func (.func 180) #[] #[]] w fun e w'=>∃sk,e=.returned (.agg #[.int .i64 23,.int .u64 0,.string ⟨#[]⟩,sk,.int .i64 k,.slice none 0 0])∧New w w'∧
  w'.ownsRow (w.heap.size+2) 78 6 sk ns.length (plainCells k (ns.map fun x=>(0,x))):=by
 obtain⟨n,hn⟩:∃n,n=ns.length:=⟨_,rfl⟩
 rw [←hn]at hmax ⊢
 have N:=Lib.hid hn
 have HD:=Lib.hid hd
 clear hn hd
 go_enter Tryz.func179,Tryz.ntmps179
 go_wp2_with fail
 go_loopg [14] n (fun m s14 wr=>∃(j:Nat) (sk:Value),j+m=n∧s14=.int .i64 (j:Int)∧New w wr∧wr.heap[w.heap.size]? =some (.cells #[.int .i64 0,.int .u64 0,.string ⟨#[]⟩,.slice none 0 0,.int .i64 0,.slice none 0 0] 78 (0,0))∧wr.heap[w.heap.size+1]? =some (.cells #[.int .i64 23,.int .u64 0,.string ⟨#[]⟩,sk,.int .i64 k,.slice none 0 0] 78 (0,0))∧wr.ownsRow (w.heap.size+2) 78 6 sk j (plainCells k ((ns.take j).map fun x=>(0,x))))
 case atStart=>
  refine⟨0,.slice none 0 0,by omega,rfl,((Keep.refl _ _).alloc _).alloc _,blk_alloc (blk_new w _) _,?_,rfl,.inl ⟨rfl,rfl⟩⟩
  simpa using blk_new (w.alloc (.cells #[.int .i64 0,.int .u64 0,.string ⟨#[]⟩,.slice none 0 0,.int .i64 0,.slice none 0 0] 78)) (.cells #[.int .i64 23,.int .u64 0,.string ⟨#[]⟩,.slice none 0 0,.int .i64 k,.slice none 0 0] 78)
 case round=>
  obtain⟨j,sk,hj,rfl,kr,hv0,hv,hown⟩:=hrel
  cases gk with
  | zero=>
    obtain rfl:j=n:=by omega
    have hsh:=own_shape hown
    obtain⟨A,cc,rfl⟩:=hsh
    have c0:=(blk_cell hv 0).trans rfl
    have e0:=(blk_cell hv0 0).trans rfl
    have f0:=blk_free hv0 0
    have c1:=(blk_cell hv 1).trans rfl
    have e1:=(blk_cell hv0 1).trans rfl
    have f1:=blk_free hv0 1
    have c2:=(blk_cell hv 2).trans rfl
    have e2:=(blk_cell hv0 2).trans rfl
    have f2:=blk_free hv0 2
    have c3:=(blk_cell hv 3).trans rfl
    have e3:=(blk_cell hv0 3).trans rfl
    have f3:=blk_free hv0 3
    have c4:=(blk_cell hv 4).trans rfl
    have e4:=(blk_cell hv0 4).trans rfl
    have f4:=blk_free hv0 4
    have c5:=(blk_cell hv 5).trans rfl
    have e5:=(blk_cell hv0 5).trans rfl
    have f5:=blk_free hv0 5
    have hown':=own_near hown ((((((((Keep.refl (fun b=>w.heap.size+2≤b) wr).setCell (p:=⟨w.heap.size,0,none⟩) (.inr (by simp)) (.int .i64 23)).setCell (p:=⟨w.heap.size,1,none⟩) (.inr (by simp)) (.int .u64 0)).setCell (p:=⟨w.heap.size,2,none⟩) (.inr (by simp)) (.string ⟨#[]⟩)).setCell (p:=⟨w.heap.size,3,none⟩) (.inr (by simp)) (.slice A j cc)).setCell (p:=⟨w.heap.size,4,none⟩) (.inr (by simp)) (.int .i64 k)).setCell (p:=⟨w.heap.size,5,none⟩) (.inr (by simp)) (.slice none 0 0)))
    have HO:=Lib.hid hown'
    clear hv hv0 hown hown'
    go_wp2
    refine bodyPost_ret (v:=.agg #[.int .i64 23,.int .u64 0,.string ⟨#[]⟩,.slice A j cc,.int .i64 k,.slice none 0 0]) (by simp [results,Tryz.results179,go_sem,e0,e1,e2,e3,e4,e5]) rfl ⟨_,rfl,?_,?_⟩
    ·repeat (refine Keep.setCell ?_ (Or.inl (b:=¬True) (Nat.le_refl _)) _)
     exact kr
    ·have:=HO.out
     rw [N.out,List.take_length]at this
     rw [N.out]
     exact this
  | succ m=>
    have hjn:j<n:=by omega
    have tj:decide ((j:Int)<n)=true:=by simpa using hjn
    have e4:(j:Int)<n:=by omega
    have hjx:j<ns.length:=by rw [←N.out];exact hjn
    obtain⟨x,hx⟩:∃x,x=ns[j]'hjx:=⟨_,rfl⟩
    have hcx:wr.cell? ⟨d,j,none⟩=some (.string ⟨x.toArray⟩):=by
     rw [blk_cell (kr.blk HD.out trivial),hx]
     simp [hjx]
    have c3:wr.cell? ⟨w.heap.size+1,3,none⟩=some sk:=(blk_cell hv 3).trans rfl
    have f3:=blk_free hv 3
    have HX:=Lib.hid hx
    clear hx
    obtain⟨A,cc,rfl⟩:=own_shape hown
    have hv':New wr wr.drew:=(Keep.refl _ wr).drew
    have hsz:=lt_blk hv
    go_wp2_with fail
    go_region_law
     (first | (go_simp;go_at_call 180;refine(lit180 _ _).mono ?_;rintro e w4 ⟨rfl,k4⟩;have c34:=(hv'.trans k4).cell c3 trivial;have c35:=cell_alloc c34 (.cells #[.int .i64 k,.int .u64 0,.string ⟨x.toArray⟩,.slice none 0 0,.int .i64 0,.slice none 0 0] 78);have k45:New wr (w4.alloc (.cells #[.int .i64 k,.int .u64 0,.string ⟨x.toArray⟩,.slice none 0 0,.int .i64 0,.slice none 0 0] 78)):=((hv'.trans k4).alloc _);obtain⟨g5,c5,w5,hap,hown5,k5⟩:=append_val (w4.alloc (.cells #[.int .i64 k,.int .u64 0,.string ⟨x.toArray⟩,.slice none 0 0,.int .i64 0,.slice none 0 0] 78)) (w.heap.size+2) (.slice A j cc) j _ (own_keep hown k45) w4.heap.size 1 [.int .i64 k,.int .u64 0,.string ⟨x.toArray⟩,.slice none 0 0,.int .i64 0,.slice none 0 0] rfl (blk_new _ _) (by simp [Value.oneCell']) (by omega) (by have:=k45.size;omega);have far:=own_far hown;have hv5:=k5.blk (k45.blk hv trivial) (far _ (by omega));have f5:=blk_free hv5 3;have c5':w5.cell? ⟨w.heap.size+1,3,none⟩=some (.slice A j cc):=(blk_cell hv5 3).trans rfl) | (refine step_append_eq hap (by rfl) _ _ (by rfl) (by rfl) (by rfl) ?_))
    all_goals
     go_wp2
     go_roundg m
     case measure=>omega
     case rel=>
      have hl5:=lt_blk hv5
      have hcs:plainCells k ((ns.take (j+1)).map fun x=>(0,x))=plainCells k ((ns.take j).map fun x=>(0,x))++[.int .i64 k,.int .u64 0,.string ⟨x.toArray⟩,.slice none 0 0,.int .i64 0,.slice none 0 0]:=by
       rw [←List.take_append_getElem hjx,←HX.out]
       simp [plainCells]
      refine⟨j+1,.slice (some ⟨g5,0,none⟩) (j+1) c5,by omega,congrArg _ (by omega),((kr.trans k45).then k5 (fun i hi _=>far i (by omega))).setCell (p:=⟨w.heap.size+1,3,none⟩) (Or.inl (b:=¬True) (Nat.le_succ _)) _,?_,?_,?_⟩
      ·exact blk_far (k5.blk (k45.blk hv0 trivial) (far _ (by omega))) (p:=⟨w.heap.size+1,3,none⟩) (by simp) _
      ·exact(blk_set hv5 3 _).trans (by simp)
      ·rw [hcs]
       exact own_near hown5 ((Keep.refl (fun b=>w.heap.size+2≤b) w5).setCell (p:=⟨w.heap.size+1,3,none⟩) (.inr (by simp)) _)
theorem numbered_f64(k:Int)(ns:List Nat)(hns:∀x∈ns,x<18446744073709551616)(hmax:ns.length≤1000)(d:Nat)(w:World)(hd:w.heap[d]? =some (.cells (ns.map fun (x:Nat)=>Value.float .f64 x).toArray 216 (0,0))):
 Calls Tryz.prog 172 #[.int .i64 k,.slice (some ⟨d,0,none⟩) ns.length ns.length,.func (.func 149) #[] #[]] w fun e w'=>∃sk,e=.returned (.agg #[.int .i64 23,.int .u64 0,.string ⟨#[]⟩,sk,.int .i64 k,.slice none 0 0])∧New w w'∧
  w'.ownsRow (w.heap.size+2) 78 6 sk ns.length (plainCells k (ns.map fun x=>(x,[]))):=by
 obtain⟨n,hn⟩:∃n,n=ns.length:=⟨_,rfl⟩
 rw [←hn]at hmax ⊢
 have N:=Lib.hid hn
 have HD:=Lib.hid hd
 have HNS:=Lib.hid hns
 clear hn hd hns
 go_enter Tryz.func172,Tryz.ntmps172
 go_wp2_with fail
 go_loopg [14] n (fun m s14 wr=>∃(j:Nat) (sk:Value),j+m=n∧s14=.int .i64 (j:Int)∧New w wr∧wr.heap[w.heap.size]? =some (.cells #[.int .i64 0,.int .u64 0,.string ⟨#[]⟩,.slice none 0 0,.int .i64 0,.slice none 0 0] 78 (0,0))∧wr.heap[w.heap.size+1]? =some (.cells #[.int .i64 23,.int .u64 0,.string ⟨#[]⟩,sk,.int .i64 k,.slice none 0 0] 78 (0,0))∧wr.ownsRow (w.heap.size+2) 78 6 sk j (plainCells k ((ns.take j).map fun x=>(x,[]))))
 case atStart=>
  refine⟨0,.slice none 0 0,by omega,rfl,((Keep.refl _ _).alloc _).alloc _,blk_alloc (blk_new w _) _,?_,rfl,.inl ⟨rfl,rfl⟩⟩
  simpa using blk_new (w.alloc (.cells #[.int .i64 0,.int .u64 0,.string ⟨#[]⟩,.slice none 0 0,.int .i64 0,.slice none 0 0] 78)) (.cells #[.int .i64 23,.int .u64 0,.string ⟨#[]⟩,.slice none 0 0,.int .i64 k,.slice none 0 0] 78)
 case round=>
  obtain⟨j,sk,hj,rfl,kr,hv0,hv,hown⟩:=hrel
  cases gk with
  | zero=>
    obtain rfl:j=n:=by omega
    have hsh:=own_shape hown
    obtain⟨A,cc,rfl⟩:=hsh
    have c0:=(blk_cell hv 0).trans rfl
    have e0:=(blk_cell hv0 0).trans rfl
    have f0:=blk_free hv0 0
    have c1:=(blk_cell hv 1).trans rfl
    have e1:=(blk_cell hv0 1).trans rfl
    have f1:=blk_free hv0 1
    have c2:=(blk_cell hv 2).trans rfl
    have e2:=(blk_cell hv0 2).trans rfl
    have f2:=blk_free hv0 2
    have c3:=(blk_cell hv 3).trans rfl
    have e3:=(blk_cell hv0 3).trans rfl
    have f3:=blk_free hv0 3
    have c4:=(blk_cell hv 4).trans rfl
    have e4:=(blk_cell hv0 4).trans rfl
    have f4:=blk_free hv0 4
    have c5:=(blk_cell hv 5).trans rfl
    have e5:=(blk_cell hv0 5).trans rfl
    have f5:=blk_free hv0 5
    have hown':=own_near hown ((((((((Keep.refl (fun b=>w.heap.size+2≤b) wr).setCell (p:=⟨w.heap.size,0,none⟩) (.inr (by simp)) (.int .i64 23)).setCell (p:=⟨w.heap.size,1,none⟩) (.inr (by simp)) (.int .u64 0)).setCell (p:=⟨w.heap.size,2,none⟩) (.inr (by simp)) (.string ⟨#[]⟩)).setCell (p:=⟨w.heap.size,3,none⟩) (.inr (by simp)) (.slice A j cc)).setCell (p:=⟨w.heap.size,4,none⟩) (.inr (by simp)) (.int .i64 k)).setCell (p:=⟨w.heap.size,5,none⟩) (.inr (by simp)) (.slice none 0 0)))
    have HO:=Lib.hid hown'
    clear hv hv0 hown hown'
    go_wp2
    refine bodyPost_ret (v:=.agg #[.int .i64 23,.int .u64 0,.string ⟨#[]⟩,.slice A j cc,.int .i64 k,.slice none 0 0]) (by simp [results,Tryz.results172,go_sem,e0,e1,e2,e3,e4,e5]) rfl ⟨_,rfl,?_,?_⟩
    ·repeat (refine Keep.setCell ?_ (Or.inl (b:=¬True) (Nat.le_refl _)) _)
     exact kr
    ·have:=HO.out
     rw [N.out,List.take_length]at this
     rw [N.out]
     exact this
  | succ m=>
    have hjn:j<n:=by omega
    have tj:decide ((j:Int)<n)=true:=by simpa using hjn
    have e4:(j:Int)<n:=by omega
    have hjx:j<ns.length:=by rw [←N.out];exact hjn
    obtain⟨x,hx⟩:∃x,x=ns[j]'hjx:=⟨_,rfl⟩
    have hcx:wr.cell? ⟨d,j,none⟩=some (.float .f64 x):=by
     rw [blk_cell (kr.blk HD.out trivial),hx]
     simp [hjx]
    have c3:wr.cell? ⟨w.heap.size+1,3,none⟩=some sk:=(blk_cell hv 3).trans rfl
    have f3:=blk_free hv 3
    have hx2:=HNS.out _ (List.getElem_mem hjx)
    rw [←hx]at hx2
    have HX:=Lib.hid hx
    clear hx
    obtain⟨A,cc,rfl⟩:=own_shape hown
    have hv':New wr wr.drew:=(Keep.refl _ wr).drew
    have hsz:=lt_blk hv
    have k4:New wr.drew wr.drew:=Keep.refl _ _
    have c34:=(hv'.trans k4).cell c3 trivial;have c35:=cell_alloc c34 (.cells #[.int .i64 k,.int .u64 (x:Int),.string ⟨#[]⟩,.slice none 0 0,.int .i64 0,.slice none 0 0] 78);have k45:New wr (wr.drew.alloc (.cells #[.int .i64 k,.int .u64 (x:Int),.string ⟨#[]⟩,.slice none 0 0,.int .i64 0,.slice none 0 0] 78)):=((hv'.trans k4).alloc _);obtain⟨g5,c5,w5,hap,hown5,k5⟩:=append_val (wr.drew.alloc (.cells #[.int .i64 k,.int .u64 (x:Int),.string ⟨#[]⟩,.slice none 0 0,.int .i64 0,.slice none 0 0] 78)) (w.heap.size+2) (.slice A j cc) j _ (own_keep hown k45) wr.drew.heap.size 1 [.int .i64 k,.int .u64 (x:Int),.string ⟨#[]⟩,.slice none 0 0,.int .i64 0,.slice none 0 0] rfl (blk_new _ _) (by simp [Value.oneCell']) (by omega) (by have:=k45.size;omega);have far:=own_far hown;have hv5:=k5.blk (k45.blk hv trivial) (far _ (by omega));have f5:=blk_free hv5 3;have c5':w5.cell? ⟨w.heap.size+1,3,none⟩=some (.slice A j cc):=(blk_cell hv5 3).trans rfl
    go_wp2_with fail
    go_region_law
     (first | (refine step_append_eq hap (by rfl) _ _ (by rfl) (by rfl) (by rfl) ?_))
    all_goals
     go_wp2
     go_roundg m
     case measure=>omega
     case rel=>
      have hl5:=lt_blk hv5
      have hcs:plainCells k ((ns.take (j+1)).map fun x=>(x,[]))=plainCells k ((ns.take j).map fun x=>(x,[]))++[.int .i64 k,.int .u64 (x:Int),.string ⟨#[]⟩,.slice none 0 0,.int .i64 0,.slice none 0 0]:=by
       rw [←List.take_append_getElem hjx,←HX.out]
       simp [plainCells]
      refine⟨j+1,.slice (some ⟨g5,0,none⟩) (j+1) c5,by omega,congrArg _ (by omega),((kr.trans k45).then k5 (fun i hi _=>far i (by omega))).setCell (p:=⟨w.heap.size+1,3,none⟩) (Or.inl (b:=¬True) (Nat.le_succ _)) _,?_,?_,?_⟩
      ·exact blk_far (k5.blk (k45.blk hv0 trivial) (far _ (by omega))) (p:=⟨w.heap.size+1,3,none⟩) (by simp) _
      ·exact(blk_set hv5 3 _).trans (by simp)
      ·rw [hcs]
       exact own_near hown5 ((Keep.refl (fun b=>w.heap.size+2≤b) w5).setCell (p:=⟨w.heap.size+1,3,none⟩) (.inr (by simp)) _)
theorem worded_bin(k:Int)(ns:List (List UInt8))(hmax:ns.length≤1000)(w:World)(d:Nat)(cs:Array Value)(hcs:∀j (hj:j<ns.length),∃u,cs[j]? =some u∧SlB w u ns[j])(hd:w.heap[d]? =some (.cells cs 27 (0,0))):
 Calls Tryz.prog 177 #[.int .i64 k,.slice (some ⟨d,0,none⟩) ns.length ns.length,.func (.func 178) #[] #[]] w fun e w'=>∃sk,e=.returned (.agg #[.int .i64 23,.int .u64 0,.string ⟨#[]⟩,sk,.int .i64 k,.slice none 0 0])∧New w w'∧
  w'.ownsRow (w.heap.size+2) 78 6 sk ns.length (plainCells k (ns.map fun x=>(0,x))):=by
 obtain⟨n,hn⟩:∃n,n=ns.length:=⟨_,rfl⟩
 rw [←hn]at hmax ⊢
 have N:=Lib.hid hn
 have HD:=Lib.hid hd
 have HCS:=Lib.hid hcs
 clear hn hd hcs
 go_enter Tryz.func177,Tryz.ntmps177
 go_wp2_with fail
 go_loopg [14] n (fun m s14 wr=>∃(j:Nat) (sk:Value),j+m=n∧s14=.int .i64 (j:Int)∧New w wr∧wr.heap[w.heap.size]? =some (.cells #[.int .i64 0,.int .u64 0,.string ⟨#[]⟩,.slice none 0 0,.int .i64 0,.slice none 0 0] 78 (0,0))∧wr.heap[w.heap.size+1]? =some (.cells #[.int .i64 23,.int .u64 0,.string ⟨#[]⟩,sk,.int .i64 k,.slice none 0 0] 78 (0,0))∧wr.ownsRow (w.heap.size+2) 78 6 sk j (plainCells k ((ns.take j).map fun x=>(0,x))))
 case atStart=>
  refine⟨0,.slice none 0 0,by omega,rfl,((Keep.refl _ _).alloc _).alloc _,blk_alloc (blk_new w _) _,?_,rfl,.inl ⟨rfl,rfl⟩⟩
  simpa using blk_new (w.alloc (.cells #[.int .i64 0,.int .u64 0,.string ⟨#[]⟩,.slice none 0 0,.int .i64 0,.slice none 0 0] 78)) (.cells #[.int .i64 23,.int .u64 0,.string ⟨#[]⟩,.slice none 0 0,.int .i64 k,.slice none 0 0] 78)
 case round=>
  obtain⟨j,sk,hj,rfl,kr,hv0,hv,hown⟩:=hrel
  cases gk with
  | zero=>
    obtain rfl:j=n:=by omega
    have hsh:=own_shape hown
    obtain⟨A,cc,rfl⟩:=hsh
    have c0:=(blk_cell hv 0).trans rfl
    have e0:=(blk_cell hv0 0).trans rfl
    have f0:=blk_free hv0 0
    have c1:=(blk_cell hv 1).trans rfl
    have e1:=(blk_cell hv0 1).trans rfl
    have f1:=blk_free hv0 1
    have c2:=(blk_cell hv 2).trans rfl
    have e2:=(blk_cell hv0 2).trans rfl
    have f2:=blk_free hv0 2
    have c3:=(blk_cell hv 3).trans rfl
    have e3:=(blk_cell hv0 3).trans rfl
    have f3:=blk_free hv0 3
    have c4:=(blk_cell hv 4).trans rfl
    have e4:=(blk_cell hv0 4).trans rfl
    have f4:=blk_free hv0 4
    have c5:=(blk_cell hv 5).trans rfl
    have e5:=(blk_cell hv0 5).trans rfl
    have f5:=blk_free hv0 5
    have hown':=own_near hown ((((((((Keep.refl (fun b=>w.heap.size+2≤b) wr).setCell (p:=⟨w.heap.size,0,none⟩) (.inr (by simp)) (.int .i64 23)).setCell (p:=⟨w.heap.size,1,none⟩) (.inr (by simp)) (.int .u64 0)).setCell (p:=⟨w.heap.size,2,none⟩) (.inr (by simp)) (.string ⟨#[]⟩)).setCell (p:=⟨w.heap.size,3,none⟩) (.inr (by simp)) (.slice A j cc)).setCell (p:=⟨w.heap.size,4,none⟩) (.inr (by simp)) (.int .i64 k)).setCell (p:=⟨w.heap.size,5,none⟩) (.inr (by simp)) (.slice none 0 0)))
    have HO:=Lib.hid hown'
    clear hv hv0 hown hown'
    go_wp2
    refine bodyPost_ret (v:=.agg #[.int .i64 23,.int .u64 0,.string ⟨#[]⟩,.slice A j cc,.int .i64 k,.slice none 0 0]) (by simp [results,Tryz.results177,go_sem,e0,e1,e2,e3,e4,e5]) rfl ⟨_,rfl,?_,?_⟩
    ·repeat (refine Keep.setCell ?_ (Or.inl (b:=¬True) (Nat.le_refl _)) _)
     exact kr
    ·have:=HO.out
     rw [N.out,List.take_length]at this
     rw [N.out]
     exact this
  | succ m=>
    have hjn:j<n:=by omega
    have tj:decide ((j:Int)<n)=true:=by simpa using hjn
    have e4:(j:Int)<n:=by omega
    have hjx:j<ns.length:=by rw [←N.out];exact hjn
    obtain⟨x,hx⟩:∃x,x=ns[j]'hjx:=⟨_,rfl⟩
    obtain⟨u,hu,hsl⟩:=HCS.out j hjx
    rw [←hx]at hsl
    have HSL:=Lib.hid hsl
    obtain⟨A2,l2,rfl⟩:∃A2 l2,u=.slice A2 x.length l2:=by
     obtain⟨A2,l2,rfl,_⟩:=hsl
     exact⟨A2,l2,rfl⟩
    clear hsl
    have hcx:wr.cell? ⟨d,j,none⟩=some (.slice A2 x.length l2):=by
     rw [blk_cell (kr.blk HD.out trivial)]
     exact hu
    have c3:wr.cell? ⟨w.heap.size+1,3,none⟩=some sk:=(blk_cell hv 3).trans rfl
    have f3:=blk_free hv 3
    have HX:=Lib.hid hx
    clear hx
    obtain⟨A,cc,rfl⟩:=own_shape hown
    have hv':New wr wr.drew:=(Keep.refl _ wr).drew
    have hsz:=lt_blk hv
    go_wp2_with fail
    go_region_law
     (first | (go_simp;go_at_call 178;refine(lit178 _ x _ (HSL.out.new (kr.trans hv'))).mono ?_;rintro e w4 ⟨rfl,k4⟩;have c34:=(hv'.trans k4).cell c3 trivial;have c35:=cell_alloc c34 (.cells #[.int .i64 k,.int .u64 0,.string ⟨x.toArray⟩,.slice none 0 0,.int .i64 0,.slice none 0 0] 78);have k45:New wr (w4.alloc (.cells #[.int .i64 k,.int .u64 0,.string ⟨x.toArray⟩,.slice none 0 0,.int .i64 0,.slice none 0 0] 78)):=((hv'.trans k4).alloc _);obtain⟨g5,c5,w5,hap,hown5,k5⟩:=append_val (w4.alloc (.cells #[.int .i64 k,.int .u64 0,.string ⟨x.toArray⟩,.slice none 0 0,.int .i64 0,.slice none 0 0] 78)) (w.heap.size+2) (.slice A j cc) j _ (own_keep hown k45) w4.heap.size 1 [.int .i64 k,.int .u64 0,.string ⟨x.toArray⟩,.slice none 0 0,.int .i64 0,.slice none 0 0] rfl (blk_new _ _) (by simp [Value.oneCell']) (by omega) (by have:=k45.size;omega);have far:=own_far hown;have hv5:=k5.blk (k45.blk hv trivial) (far _ (by omega));have f5:=blk_free hv5 3;have c5':w5.cell? ⟨w.heap.size+1,3,none⟩=some (.slice A j cc):=(blk_cell hv5 3).trans rfl) | (refine step_append_eq hap (by rfl) _ _ (by rfl) (by rfl) (by rfl) ?_))
    all_goals
     go_wp2
     go_roundg m
     case measure=>omega
     case rel=>
      have hl5:=lt_blk hv5
      have hcs:plainCells k ((ns.take (j+1)).map fun x=>(0,x))=plainCells k ((ns.take j).map fun x=>(0,x))++[.int .i64 k,.int .u64 0,.string ⟨x.toArray⟩,.slice none 0 0,.int .i64 0,.slice none 0 0]:=by
       rw [←List.take_append_getElem hjx,←HX.out]
       simp [plainCells]
      refine⟨j+1,.slice (some ⟨g5,0,none⟩) (j+1) c5,by omega,congrArg _ (by omega),((kr.trans k45).then k5 (fun i hi _=>far i (by omega))).setCell (p:=⟨w.heap.size+1,3,none⟩) (Or.inl (b:=¬True) (Nat.le_succ _)) _,?_,?_,?_⟩
      ·exact blk_far (k5.blk (k45.blk hv0 trivial) (far _ (by omega))) (p:=⟨w.heap.size+1,3,none⟩) (by simp) _
      ·exact(blk_set hv5 3 _).trans (by simp)
      ·rw [hcs]
       exact own_near hown5 ((Keep.refl (fun b=>w.heap.size+2≤b) w5).setCell (p:=⟨w.heap.size+1,3,none⟩) (.inr (by simp)) _)
theorem lit174(n:Nat)(h:n<18446744073709551616)(w:World):Calls Tryz.prog 174 #[timeV (sgn n)] w fun e w'=>e=.returned (.int .u64 n)∧New w w':=by
 have hu:=u64s h
 have hw:=wrap64_in (n:Int)
 go_enter Tryz.func174,Tryz.ntmps174
 simp only [timeV]
 go_wp2_with fail
 refine(unixMilli_is (sgn n) _ hw.1 hw.2).mono ?_
 rintro e w1 ⟨rfl,k1⟩
 go_wp2
 go_ret
 exact⟨rfl,((Keep.refl _ w).alloc _).trans k1⟩
theorem lit176(t:List UInt8)(h:t.length=16)(w:World):Calls Tryz.prog 176 #[uuidV t] w fun e w'=>e=.returned (.string ⟨t.toArray⟩)∧New w w':=by
 obtain⟨a0,a1,a2,a3,a4,a5,a6,a7,a8,a9,a10,a11,a12,a13,a14,a15,rfl⟩:=sixteen_of h
 simp only [uuidV,List.map_cons,List.map_nil]
 have hc:=conv_cells (w.alloc (.cells #[.int .u8 a0.toNat,.int .u8 a1.toNat,.int .u8 a2.toNat,.int .u8 a3.toNat,.int .u8 a4.toNat,.int .u8 a5.toNat,.int .u8 a6.toNat,.int .u8 a7.toNat,.int .u8 a8.toNat,.int .u8 a9.toNat,.int .u8 a10.toNat,.int .u8 a11.toNat,.int .u8 a12.toNat,.int .u8 a13.toNat,.int .u8 a14.toNat,.int .u8 a15.toNat] 309)) w.heap.size 0 16 [a0,a1,a2,a3,a4,a5,a6,a7,a8,a9,a10,a11,a12,a13,a14,a15] (fun j hj=>by
  have hb:=blk_new w (.cells #[.int .u8 a0.toNat,.int .u8 a1.toNat,.int .u8 a2.toNat,.int .u8 a3.toNat,.int .u8 a4.toNat,.int .u8 a5.toNat,.int .u8 a6.toNat,.int .u8 a7.toNat,.int .u8 a8.toNat,.int .u8 a9.toNat,.int .u8 a10.toNat,.int .u8 a11.toNat,.int .u8 a12.toNat,.int .u8 a13.toNat,.int .u8 a14.toNat,.int .u8 a15.toNat] 309)
  rw [blk_cell hb]
  match j,hj with
  | 0,_=>rfl
  | 1,_=>rfl
  | 2,_=>rfl
  | 3,_=>rfl
  | 4,_=>rfl
  | 5,_=>rfl
  | 6,_=>rfl
  | 7,_=>rfl
  | 8,_=>rfl
  | 9,_=>rfl
  | 10,_=>rfl
  | 11,_=>rfl
  | 12,_=>rfl
  | 13,_=>rfl
  | 14,_=>rfl
  | 15,_=>rfl
  | n+16,h=>simp at h;omega)
 simp only [List.length_cons,List.length_nil]at hc
 go_enter Tryz.func176,Tryz.ntmps176
 go_wp2
 go_ret
 exact⟨rfl,(Keep.refl _ w).alloc _⟩
theorem numbered_time(k:Int)(ns:List Nat)(hns:∀x∈ns,x<18446744073709551616)(hmax:ns.length≤1000)(d:Nat)(w:World)(hd:w.heap[d]? =some (.cells (ns.map fun (x:Nat)=>timeC (sgn x)).flatten.toArray 228 (0,0))):
 Calls Tryz.prog 173 #[.int .i64 k,.slice (some ⟨d,0,none⟩) ns.length ns.length,.func (.func 174) #[] #[]] w fun e w'=>∃sk,e=.returned (.agg #[.int .i64 23,.int .u64 0,.string ⟨#[]⟩,sk,.int .i64 k,.slice none 0 0])∧New w w'∧
  w'.ownsRow (w.heap.size+2) 78 6 sk ns.length (plainCells k (ns.map fun x=>(x,[]))):=by
 obtain⟨n,hn⟩:∃n,n=ns.length:=⟨_,rfl⟩
 rw [←hn]at hmax ⊢
 have N:=Lib.hid hn
 have HD:=Lib.hid hd
 have HNS:=Lib.hid hns
 clear hn hd hns
 go_enter Tryz.func173,Tryz.ntmps173
 go_wp2_with fail
 go_loopg [14] n (fun m s14 wr=>∃(j:Nat) (sk:Value),j+m=n∧s14=.int .i64 (j:Int)∧New w wr∧wr.heap[w.heap.size]? =some (.cells #[.int .i64 0,.int .u64 0,.string ⟨#[]⟩,.slice none 0 0,.int .i64 0,.slice none 0 0] 78 (0,0))∧wr.heap[w.heap.size+1]? =some (.cells #[.int .i64 23,.int .u64 0,.string ⟨#[]⟩,sk,.int .i64 k,.slice none 0 0] 78 (0,0))∧wr.ownsRow (w.heap.size+2) 78 6 sk j (plainCells k ((ns.take j).map fun x=>(x,[]))))
 case atStart=>
  refine⟨0,.slice none 0 0,by omega,rfl,((Keep.refl _ _).alloc _).alloc _,blk_alloc (blk_new w _) _,?_,rfl,.inl ⟨rfl,rfl⟩⟩
  simpa using blk_new (w.alloc (.cells #[.int .i64 0,.int .u64 0,.string ⟨#[]⟩,.slice none 0 0,.int .i64 0,.slice none 0 0] 78)) (.cells #[.int .i64 23,.int .u64 0,.string ⟨#[]⟩,.slice none 0 0,.int .i64 k,.slice none 0 0] 78)
 case round=>
  obtain⟨j,sk,hj,rfl,kr,hv0,hv,hown⟩:=hrel
  cases gk with
  | zero=>
    obtain rfl:j=n:=by omega
    have hsh:=own_shape hown
    obtain⟨A,cc,rfl⟩:=hsh
    have c0:=(blk_cell hv 0).trans rfl
    have e0:=(blk_cell hv0 0).trans rfl
    have f0:=blk_free hv0 0
    have c1:=(blk_cell hv 1).trans rfl
    have e1:=(blk_cell hv0 1).trans rfl
    have f1:=blk_free hv0 1
    have c2:=(blk_cell hv 2).trans rfl
    have e2:=(blk_cell hv0 2).trans rfl
    have f2:=blk_free hv0 2
    have c3:=(blk_cell hv 3).trans rfl
    have e3:=(blk_cell hv0 3).trans rfl
    have f3:=blk_free hv0 3
    have c4:=(blk_cell hv 4).trans rfl
    have e4:=(blk_cell hv0 4).trans rfl
    have f4:=blk_free hv0 4
    have c5:=(blk_cell hv 5).trans rfl
    have e5:=(blk_cell hv0 5).trans rfl
    have f5:=blk_free hv0 5
    have hown':=own_near hown ((((((((Keep.refl (fun b=>w.heap.size+2≤b) wr).setCell (p:=⟨w.heap.size,0,none⟩) (.inr (by simp)) (.int .i64 23)).setCell (p:=⟨w.heap.size,1,none⟩) (.inr (by simp)) (.int .u64 0)).setCell (p:=⟨w.heap.size,2,none⟩) (.inr (by simp)) (.string ⟨#[]⟩)).setCell (p:=⟨w.heap.size,3,none⟩) (.inr (by simp)) (.slice A j cc)).setCell (p:=⟨w.heap.size,4,none⟩) (.inr (by simp)) (.int .i64 k)).setCell (p:=⟨w.heap.size,5,none⟩) (.inr (by simp)) (.slice none 0 0)))
    have HO:=Lib.hid hown'
    clear hv hv0 hown hown'
    go_wp2
    refine bodyPost_ret (v:=.agg #[.int .i64 23,.int .u64 0,.string ⟨#[]⟩,.slice A j cc,.int .i64 k,.slice none 0 0]) (by simp [results,Tryz.results173,go_sem,e0,e1,e2,e3,e4,e5]) rfl ⟨_,rfl,?_,?_⟩
    ·repeat (refine Keep.setCell ?_ (Or.inl (b:=¬True) (Nat.le_refl _)) _)
     exact kr
    ·have:=HO.out
     rw [N.out,List.take_length]at this
     rw [N.out]
     exact this
  | succ m=>
    have hjn:j<n:=by omega
    have tj:decide ((j:Int)<n)=true:=by simpa using hjn
    have e4:(j:Int)<n:=by omega
    have hjx:j<ns.length:=by rw [←N.out];exact hjn
    obtain⟨x,hx⟩:∃x,x=ns[j]'hjx:=⟨_,rfl⟩
    have hfl:=flatF (F:=fun x:Nat=>timeC (sgn x)) (sz:=2) (fun _=>rfl) ns
    have hcx0:wr.cell? ⟨d,j*2,none⟩=some (.int .i64 (sgn x/1000)):=by
     rw [blk_cell (kr.blk HD.out trivial),hx]
     have:=hfl.2 j hjx 0 (by omega)
     rw [List.getElem?_toArray]
     exact this
    have hcx1:wr.cell? ⟨d,j*2+1,none⟩=some (.int .i64 (sgn x % 1000*1000000)):=by
     rw [blk_cell (kr.blk HD.out trivial),hx]
     have:=hfl.2 j hjx 1 (by omega)
     rw [List.getElem?_toArray]
     exact this
    clear hfl
    have c3:wr.cell? ⟨w.heap.size+1,3,none⟩=some sk:=(blk_cell hv 3).trans rfl
    have f3:=blk_free hv 3
    have hx2:=HNS.out _ (List.getElem_mem hjx)
    rw [←hx]at hx2
    have HX:=Lib.hid hx
    clear hx
    obtain⟨A,cc,rfl⟩:=own_shape hown
    have hv':New wr (wr.alloc (.cells #[.int .i64 (sgn x/1000),.int .i64 (sgn x % 1000*1000000)] 228)).drew:=((Keep.refl _ wr).alloc _).drew
    have c3a:=cell_alloc c3 (.cells #[.int .i64 (sgn x/1000),.int .i64 (sgn x % 1000*1000000)] 228)
    have hsz:=lt_blk hv
    go_wp2_with fail
    go_region_law
     (first | (go_simp;go_at_call 174;refine(lit174 x hx2 _).mono ?_;rintro e w4 ⟨rfl,k4⟩;have c34:=(hv'.trans k4).cell c3 trivial;have c35:=cell_alloc c34 (.cells #[.int .i64 k,.int .u64 (x:Int),.string ⟨#[]⟩,.slice none 0 0,.int .i64 0,.slice none 0 0] 78);have k45:New wr (w4.alloc (.cells #[.int .i64 k,.int .u64 (x:Int),.string ⟨#[]⟩,.slice none 0 0,.int .i64 0,.slice none 0 0] 78)):=((hv'.trans k4).alloc _);obtain⟨g5,c5,w5,hap,hown5,k5⟩:=append_val (w4.alloc (.cells #[.int .i64 k,.int .u64 (x:Int),.string ⟨#[]⟩,.slice none 0 0,.int .i64 0,.slice none 0 0] 78)) (w.heap.size+2) (.slice A j cc) j _ (own_keep hown k45) w4.heap.size 1 [.int .i64 k,.int .u64 (x:Int),.string ⟨#[]⟩,.slice none 0 0,.int .i64 0,.slice none 0 0] rfl (blk_new _ _) (by simp [Value.oneCell']) (by omega) (by have:=k45.size;omega);have far:=own_far hown;have hv5:=k5.blk (k45.blk hv trivial) (far _ (by omega));have f5:=blk_free hv5 3;have c5':w5.cell? ⟨w.heap.size+1,3,none⟩=some (.slice A j cc):=(blk_cell hv5 3).trans rfl) | (refine step_append_eq hap (by rfl) _ _ (by rfl) (by rfl) (by rfl) ?_))
    all_goals
     go_wp2
     go_roundg m
     case measure=>omega
     case rel=>
      have hl5:=lt_blk hv5
      have hcs:plainCells k ((ns.take (j+1)).map fun x=>(x,[]))=plainCells k ((ns.take j).map fun x=>(x,[]))++[.int .i64 k,.int .u64 (x:Int),.string ⟨#[]⟩,.slice none 0 0,.int .i64 0,.slice none 0 0]:=by
       rw [←List.take_append_getElem hjx,←HX.out]
       simp [plainCells]
      refine⟨j+1,.slice (some ⟨g5,0,none⟩) (j+1) c5,by omega,congrArg _ (by omega),((kr.trans k45).then k5 (fun i hi _=>far i (by omega))).setCell (p:=⟨w.heap.size+1,3,none⟩) (Or.inl (b:=¬True) (Nat.le_succ _)) _,?_,?_,?_⟩
      ·exact blk_far (k5.blk (k45.blk hv0 trivial) (far _ (by omega))) (p:=⟨w.heap.size+1,3,none⟩) (by simp) _
      ·exact(blk_set hv5 3 _).trans (by simp)
      ·rw [hcs]
       exact own_near hown5 ((Keep.refl (fun b=>w.heap.size+2≤b) w5).setCell (p:=⟨w.heap.size+1,3,none⟩) (.inr (by simp)) _)
theorem worded_uuid(k:Int)(ns:List (List UInt8))(hns:∀x∈ns,x.length=16)(hmax:ns.length≤1000)(d:Nat)(w:World)(hd:w.heap[d]? =some (.cells (ns.map uuidC).flatten.toArray 309 (0,0))):
 Calls Tryz.prog 175 #[.int .i64 k,.slice (some ⟨d,0,none⟩) ns.length ns.length,.func (.func 176) #[] #[]] w fun e w'=>∃sk,e=.returned (.agg #[.int .i64 23,.int .u64 0,.string ⟨#[]⟩,sk,.int .i64 k,.slice none 0 0])∧New w w'∧
  w'.ownsRow (w.heap.size+2) 78 6 sk ns.length (plainCells k (ns.map fun x=>(0,x))):=by
 obtain⟨n,hn⟩:∃n,n=ns.length:=⟨_,rfl⟩
 rw [←hn]at hmax ⊢
 have N:=Lib.hid hn
 have HD:=Lib.hid hd
 have HNS:=Lib.hid hns
 clear hn hd hns
 go_enter Tryz.func175,Tryz.ntmps175
 go_wp2_with fail
 go_loopg [14] n (fun m s14 wr=>∃(j:Nat) (sk:Value),j+m=n∧s14=.int .i64 (j:Int)∧New w wr∧wr.heap[w.heap.size]? =some (.cells #[.int .i64 0,.int .u64 0,.string ⟨#[]⟩,.slice none 0 0,.int .i64 0,.slice none 0 0] 78 (0,0))∧wr.heap[w.heap.size+1]? =some (.cells #[.int .i64 23,.int .u64 0,.string ⟨#[]⟩,sk,.int .i64 k,.slice none 0 0] 78 (0,0))∧wr.ownsRow (w.heap.size+2) 78 6 sk j (plainCells k ((ns.take j).map fun x=>(0,x))))
 case atStart=>
  refine⟨0,.slice none 0 0,by omega,rfl,((Keep.refl _ _).alloc _).alloc _,blk_alloc (blk_new w _) _,?_,rfl,.inl ⟨rfl,rfl⟩⟩
  simpa using blk_new (w.alloc (.cells #[.int .i64 0,.int .u64 0,.string ⟨#[]⟩,.slice none 0 0,.int .i64 0,.slice none 0 0] 78)) (.cells #[.int .i64 23,.int .u64 0,.string ⟨#[]⟩,.slice none 0 0,.int .i64 k,.slice none 0 0] 78)
 case round=>
  obtain⟨j,sk,hj,rfl,kr,hv0,hv,hown⟩:=hrel
  cases gk with
  | zero=>
    obtain rfl:j=n:=by omega
    have hsh:=own_shape hown
    obtain⟨A,cc,rfl⟩:=hsh
    have c0:=(blk_cell hv 0).trans rfl
    have e0:=(blk_cell hv0 0).trans rfl
    have f0:=blk_free hv0 0
    have c1:=(blk_cell hv 1).trans rfl
    have e1:=(blk_cell hv0 1).trans rfl
    have f1:=blk_free hv0 1
    have c2:=(blk_cell hv 2).trans rfl
    have e2:=(blk_cell hv0 2).trans rfl
    have f2:=blk_free hv0 2
    have c3:=(blk_cell hv 3).trans rfl
    have e3:=(blk_cell hv0 3).trans rfl
    have f3:=blk_free hv0 3
    have c4:=(blk_cell hv 4).trans rfl
    have e4:=(blk_cell hv0 4).trans rfl
    have f4:=blk_free hv0 4
    have c5:=(blk_cell hv 5).trans rfl
    have e5:=(blk_cell hv0 5).trans rfl
    have f5:=blk_free hv0 5
    have hown':=own_near hown ((((((((Keep.refl (fun b=>w.heap.size+2≤b) wr).setCell (p:=⟨w.heap.size,0,none⟩) (.inr (by simp)) (.int .i64 23)).setCell (p:=⟨w.heap.size,1,none⟩) (.inr (by simp)) (.int .u64 0)).setCell (p:=⟨w.heap.size,2,none⟩) (.inr (by simp)) (.string ⟨#[]⟩)).setCell (p:=⟨w.heap.size,3,none⟩) (.inr (by simp)) (.slice A j cc)).setCell (p:=⟨w.heap.size,4,none⟩) (.inr (by simp)) (.int .i64 k)).setCell (p:=⟨w.heap.size,5,none⟩) (.inr (by simp)) (.slice none 0 0)))
    have HO:=Lib.hid hown'
    clear hv hv0 hown hown'
    go_wp2
    refine bodyPost_ret (v:=.agg #[.int .i64 23,.int .u64 0,.string ⟨#[]⟩,.slice A j cc,.int .i64 k,.slice none 0 0]) (by simp [results,Tryz.results175,go_sem,e0,e1,e2,e3,e4,e5]) rfl ⟨_,rfl,?_,?_⟩
    ·repeat (refine Keep.setCell ?_ (Or.inl (b:=¬True) (Nat.le_refl _)) _)
     exact kr
    ·have:=HO.out
     rw [N.out,List.take_length]at this
     rw [N.out]
     exact this
  | succ m=>
    have hjn:j<n:=by omega
    have tj:decide ((j:Int)<n)=true:=by simpa using hjn
    have e4:(j:Int)<n:=by omega
    have hjx:j<ns.length:=by rw [←N.out];exact hjn
    obtain⟨x,hx⟩:∃x,x=ns[j]'hjx:=⟨_,rfl⟩
    have hfl:=flatF' (F:=uuidC) (sz:=16) ns (fun y hy=>by simp [uuidC,HNS.out y hy])
    have hel:∀q,q<16→wr.cell? ⟨d,j*16+q,none⟩=(uuidC x)[q]? :=fun q hq=>by
     rw [blk_cell (kr.blk HD.out trivial),hx]
     have:=hfl.2 j hjx q hq
     rw [List.getElem?_toArray]
     exact this
    clear hfl
    have c3:wr.cell? ⟨w.heap.size+1,3,none⟩=some sk:=(blk_cell hv 3).trans rfl
    have f3:=blk_free hv 3
    have hx2:=HNS.out _ (List.getElem_mem hjx)
    rw [←hx]at hx2
    obtain⟨a0,a1,a2,a3,a4,a5,a6,a7,a8,a9,a10,a11,a12,a13,a14,a15,hxa⟩:=sixteen_of hx2
    have HXA:=Lib.hid hxa
    have hcx0:wr.cell? ⟨d,j*16,none⟩=some (.int .u8 a0.toNat):=by
     have:=hel 0 (by omega)
     rw [hxa]at this
     exact this
    have hcx1:wr.cell? ⟨d,j*16+1,none⟩=some (.int .u8 a1.toNat):=by
     have:=hel 1 (by omega)
     rw [hxa]at this
     exact this
    have hcx2:wr.cell? ⟨d,j*16+2,none⟩=some (.int .u8 a2.toNat):=by
     have:=hel 2 (by omega)
     rw [hxa]at this
     exact this
    have hcx3:wr.cell? ⟨d,j*16+3,none⟩=some (.int .u8 a3.toNat):=by
     have:=hel 3 (by omega)
     rw [hxa]at this
     exact this
    have hcx4:wr.cell? ⟨d,j*16+4,none⟩=some (.int .u8 a4.toNat):=by
     have:=hel 4 (by omega)
     rw [hxa]at this
     exact this
    have hcx5:wr.cell? ⟨d,j*16+5,none⟩=some (.int .u8 a5.toNat):=by
     have:=hel 5 (by omega)
     rw [hxa]at this
     exact this
    have hcx6:wr.cell? ⟨d,j*16+6,none⟩=some (.int .u8 a6.toNat):=by
     have:=hel 6 (by omega)
     rw [hxa]at this
     exact this
    have hcx7:wr.cell? ⟨d,j*16+7,none⟩=some (.int .u8 a7.toNat):=by
     have:=hel 7 (by omega)
     rw [hxa]at this
     exact this
    have hcx8:wr.cell? ⟨d,j*16+8,none⟩=some (.int .u8 a8.toNat):=by
     have:=hel 8 (by omega)
     rw [hxa]at this
     exact this
    have hcx9:wr.cell? ⟨d,j*16+9,none⟩=some (.int .u8 a9.toNat):=by
     have:=hel 9 (by omega)
     rw [hxa]at this
     exact this
    have hcx10:wr.cell? ⟨d,j*16+10,none⟩=some (.int .u8 a10.toNat):=by
     have:=hel 10 (by omega)
     rw [hxa]at this
     exact this
    have hcx11:wr.cell? ⟨d,j*16+11,none⟩=some (.int .u8 a11.toNat):=by
     have:=hel 11 (by omega)
     rw [hxa]at this
     exact this
    have hcx12:wr.cell? ⟨d,j*16+12,none⟩=some (.int .u8 a12.toNat):=by
     have:=hel 12 (by omega)
     rw [hxa]at this
     exact this
    have hcx13:wr.cell? ⟨d,j*16+13,none⟩=some (.int .u8 a13.toNat):=by
     have:=hel 13 (by omega)
     rw [hxa]at this
     exact this
    have hcx14:wr.cell? ⟨d,j*16+14,none⟩=some (.int .u8 a14.toNat):=by
     have:=hel 14 (by omega)
     rw [hxa]at this
     exact this
    have hcx15:wr.cell? ⟨d,j*16+15,none⟩=some (.int .u8 a15.toNat):=by
     have:=hel 15 (by omega)
     rw [hxa]at this
     exact this
    have HXU:Hid (uuidV x=.agg #[.int .u8 a0.toNat,.int .u8 a1.toNat,.int .u8 a2.toNat,.int .u8 a3.toNat,.int .u8 a4.toNat,.int .u8 a5.toNat,.int .u8 a6.toNat,.int .u8 a7.toNat,.int .u8 a8.toNat,.int .u8 a9.toNat,.int .u8 a10.toNat,.int .u8 a11.toNat,.int .u8 a12.toNat,.int .u8 a13.toNat,.int .u8 a14.toNat,.int .u8 a15.toNat]):=Lib.hid (by rw [hxa];rfl)
    clear hel hxa
    have HX:=Lib.hid hx
    clear hx
    obtain⟨A,cc,rfl⟩:=own_shape hown
    have hv':New wr (wr.alloc (.cells #[.int .u8 a0.toNat,.int .u8 a1.toNat,.int .u8 a2.toNat,.int .u8 a3.toNat,.int .u8 a4.toNat,.int .u8 a5.toNat,.int .u8 a6.toNat,.int .u8 a7.toNat,.int .u8 a8.toNat,.int .u8 a9.toNat,.int .u8 a10.toNat,.int .u8 a11.toNat,.int .u8 a12.toNat,.int .u8 a13.toNat,.int .u8 a14.toNat,.int .u8 a15.toNat] 309)).drew:=((Keep.refl _ wr).alloc _).drew
    have c3a:=cell_alloc c3 (.cells #[.int .u8 a0.toNat,.int .u8 a1.toNat,.int .u8 a2.toNat,.int .u8 a3.toNat,.int .u8 a4.toNat,.int .u8 a5.toNat,.int .u8 a6.toNat,.int .u8 a7.toNat,.int .u8 a8.toNat,.int .u8 a9.toNat,.int .u8 a10.toNat,.int .u8 a11.toNat,.int .u8 a12.toNat,.int .u8 a13.toNat,.int .u8 a14.toNat,.int .u8 a15.toNat] 309)
    have hsz:=lt_blk hv
    go_wp2_with fail
    go_region_law
     (first | (go_simp;go_at_call 176;refine(show Calls Tryz.prog 176 #[.agg #[.int .u8 a0.toNat,.int .u8 a1.toNat,.int .u8 a2.toNat,.int .u8 a3.toNat,.int .u8 a4.toNat,.int .u8 a5.toNat,.int .u8 a6.toNat,.int .u8 a7.toNat,.int .u8 a8.toNat,.int .u8 a9.toNat,.int .u8 a10.toNat,.int .u8 a11.toNat,.int .u8 a12.toNat,.int .u8 a13.toNat,.int .u8 a14.toNat,.int .u8 a15.toNat]] ((wr.alloc (.cells #[.int .u8 a0.toNat,.int .u8 a1.toNat,.int .u8 a2.toNat,.int .u8 a3.toNat,.int .u8 a4.toNat,.int .u8 a5.toNat,.int .u8 a6.toNat,.int .u8 a7.toNat,.int .u8 a8.toNat,.int .u8 a9.toNat,.int .u8 a10.toNat,.int .u8 a11.toNat,.int .u8 a12.toNat,.int .u8 a13.toNat,.int .u8 a14.toNat,.int .u8 a15.toNat] 309)).drew) (fun e w9=>e=.returned (.string ⟨x.toArray⟩)∧New ((wr.alloc (.cells #[.int .u8 a0.toNat,.int .u8 a1.toNat,.int .u8 a2.toNat,.int .u8 a3.toNat,.int .u8 a4.toNat,.int .u8 a5.toNat,.int .u8 a6.toNat,.int .u8 a7.toNat,.int .u8 a8.toNat,.int .u8 a9.toNat,.int .u8 a10.toNat,.int .u8 a11.toNat,.int .u8 a12.toNat,.int .u8 a13.toNat,.int .u8 a14.toNat,.int .u8 a15.toNat] 309)).drew) w9) from by have:=lit176 x hx2 ((wr.alloc (.cells #[.int .u8 a0.toNat,.int .u8 a1.toNat,.int .u8 a2.toNat,.int .u8 a3.toNat,.int .u8 a4.toNat,.int .u8 a5.toNat,.int .u8 a6.toNat,.int .u8 a7.toNat,.int .u8 a8.toNat,.int .u8 a9.toNat,.int .u8 a10.toNat,.int .u8 a11.toNat,.int .u8 a12.toNat,.int .u8 a13.toNat,.int .u8 a14.toNat,.int .u8 a15.toNat] 309)).drew);rw [HXU.out]at this;exact this).mono ?_;rintro e w4 ⟨rfl,k4⟩;have c34:=(hv'.trans k4).cell c3 trivial;have c35:=cell_alloc c34 (.cells #[.int .i64 k,.int .u64 0,.string ⟨x.toArray⟩,.slice none 0 0,.int .i64 0,.slice none 0 0] 78);have k45:New wr (w4.alloc (.cells #[.int .i64 k,.int .u64 0,.string ⟨x.toArray⟩,.slice none 0 0,.int .i64 0,.slice none 0 0] 78)):=((hv'.trans k4).alloc _);obtain⟨g5,c5,w5,hap,hown5,k5⟩:=append_val (w4.alloc (.cells #[.int .i64 k,.int .u64 0,.string ⟨x.toArray⟩,.slice none 0 0,.int .i64 0,.slice none 0 0] 78)) (w.heap.size+2) (.slice A j cc) j _ (own_keep hown k45) w4.heap.size 1 [.int .i64 k,.int .u64 0,.string ⟨x.toArray⟩,.slice none 0 0,.int .i64 0,.slice none 0 0] rfl (blk_new _ _) (by simp [Value.oneCell']) (by omega) (by have:=k45.size;omega);have far:=own_far hown;have hv5:=k5.blk (k45.blk hv trivial) (far _ (by omega));have f5:=blk_free hv5 3;have c5':w5.cell? ⟨w.heap.size+1,3,none⟩=some (.slice A j cc):=(blk_cell hv5 3).trans rfl) | (refine step_append_eq hap (by rfl) _ _ (by rfl) (by rfl) (by rfl) ?_))
    all_goals
     go_wp2
     go_roundg m
     case measure=>omega
     case rel=>
      have hl5:=lt_blk hv5
      have hcs:plainCells k ((ns.take (j+1)).map fun x=>(0,x))=plainCells k ((ns.take j).map fun x=>(0,x))++[.int .i64 k,.int .u64 0,.string ⟨x.toArray⟩,.slice none 0 0,.int .i64 0,.slice none 0 0]:=by
       rw [←List.take_append_getElem hjx,←HX.out]
       simp [plainCells]
      refine⟨j+1,.slice (some ⟨g5,0,none⟩) (j+1) c5,by omega,congrArg _ (by omega),((kr.trans k45).then k5 (fun i hi _=>far i (by omega))).setCell (p:=⟨w.heap.size+1,3,none⟩) (Or.inl (b:=¬True) (Nat.le_succ _)) _,?_,?_,?_⟩
      ·exact blk_far (k5.blk (k45.blk hv0 trivial) (far _ (by omega))) (p:=⟨w.heap.size+1,3,none⟩) (by simp) _
      ·exact(blk_set hv5 3 _).trans (by simp)
      ·rw [hcs]
       exact own_near hown5 ((Keep.refl (fun b=>w.heap.size+2≤b) w5).setCell (p:=⟨w.heap.size+1,3,none⟩) (.inr (by simp)) _)
theorem own_base{w:World}{base base' n:Nat}{v:Value}{xs:List Value}(h:w.ownsRow base 78 6 v n xs)(hb:base'≤base):w.ownsRow base' 78 6 v n xs:=by
 obtain⟨h1,h2⟩:=h
 refine⟨h1,?_⟩
 rcases h2 with h2 | ⟨g,cap,cur,hv,hg,hr⟩
 ·exact .inl h2
 ·exact .inr ⟨g,cap,cur,hv,Nat.le_trans hb hg,hr⟩
theorem varr(T:TypeId)(F C:FuncId)(K:Int)(hq:(T,F,C,K)∈[(313,153,147,1),(315,154,155,2),(51,156,157,3),(320,158,159,4),(323,160,161,5),(326,162,163,6),(329,164,165,7),(332,166,167,8),(335,168,169,9),(338,170,171,10),(341,172,149,11),(343,173,174,16),(346,175,176,17),(349,177,178,18),(52,179,180,19)])(A0:Option Addr)(l0 c0 n:Nat)(cells:List Value)(w:World)
 (hcall:∀w1,New w w1→Calls Tryz.prog F #[.int .i64 K,.slice A0 l0 c0,.func (.func C) #[] #[]] w1 fun e w'=>∃sk,e=.returned (.agg #[.int .i64 23,.int .u64 0,.string ⟨#[]⟩,sk,.int .i64 K,.slice none 0 0])∧New w1 w'∧w'.ownsRow (w1.heap.size+2) 78 6 sk n cells):
 Calls Tryz.prog 91 #[.iface T (.slice A0 l0 c0)] w fun e w'=>∃sk,e=.returned (.tuple #[.agg #[.int .i64 23,.int .u64 0,.string ⟨#[]⟩,sk,.int .i64 K,.slice none 0 0],.bool true])∧New w w'∧w'.ownsRow w.heap.size 78 6 sk n cells:=by
 have HC:=Lib.hid hcall
 clear hcall
 obtain⟨k0,hk0⟩:∃k0,k0=K:=⟨_,rfl⟩
 simp only [List.mem_cons,List.mem_nil_iff,or_false,Prod.mk.injEq]at hq
 rcases hq with⟨rfl,rfl,rfl,rfl⟩ | ⟨rfl,rfl,rfl,rfl⟩ | ⟨rfl,rfl,rfl,rfl⟩ | ⟨rfl,rfl,rfl,rfl⟩ | ⟨rfl,rfl,rfl,rfl⟩ | ⟨rfl,rfl,rfl,rfl⟩ | ⟨rfl,rfl,rfl,rfl⟩ | ⟨rfl,rfl,rfl,rfl⟩ | ⟨rfl,rfl,rfl,rfl⟩ | ⟨rfl,rfl,rfl,rfl⟩ | ⟨rfl,rfl,rfl,rfl⟩ | ⟨rfl,rfl,rfl,rfl⟩ | ⟨rfl,rfl,rfl,rfl⟩ | ⟨rfl,rfl,rfl,rfl⟩ | ⟨rfl,rfl,rfl,rfl⟩
 all_goals
  go_enter Tryz.func91,Tryz.ntmps91
  go_wp2_with fail
  refine(HC.out _ ((Keep.refl _ w).alloc _)).mono ?_
  rintro e w1 ⟨sk,rfl,k1,hown⟩
  obtain⟨A,cc,rfl⟩:=own_shape hown
  have k2:=(((Keep.refl (fun _=>True) w).alloc _).trans k1)
  have hb:=k1.blk (blk_new w _) trivial
  have c0:=(blk_cell hb 0).trans rfl
  have c1:=(blk_cell hb 1).trans rfl
  have c2:=(blk_cell hb 2).trans rfl
  have c3:=(blk_cell hb 3).trans rfl
  have c4:=(blk_cell hb 4).trans rfl
  have c5:=(blk_cell hb 5).trans rfl
  have f0:=blk_free hb 0
  have f1:=blk_free hb 1
  have f2:=blk_free hb 2
  have f3:=blk_free hb 3
  have f4:=blk_free hb 4
  have f5:=blk_free hb 5
  have HO:=Lib.hid hown
  clear hb hown
  go_wp2
  refine bodyPost_ret (v:=.tuple #[.agg #[.int .i64 23,.int .u64 0,.string ⟨#[]⟩,.slice A n cc,.int .i64 k0,.slice none 0 0],.bool true]) (by simp [results,Tryz.results91,go_sem,c0,c1,c2,c3,c4,c5,hk0]) rfl ⟨_,by rw [hk0],?_,?_⟩
  ·repeat (refine Keep.setCell ?_ (Or.inl (b:=¬True) (Nat.le_refl _)) _)
   exact k2
  ·have h:=HO.out
   simp only [World.size_alloc]at h
   refine own_base (base:=w.heap.size+1+2) (own_near h ?_) (by omega)
   repeat (refine Keep.setCell ?_ (Or.inr (by simp<;>omega)) _)
   exact Keep.refl _ _
theorem flat1{α:Type}(g:α→Value)(l:List α):(l.map fun v=>[g v]).flatten=l.map g:=by
 induction l with
 | nil=>rfl
 | cons a r ih=>simp [ih]
theorem sims_plain{k:Int}(hk:k<20):∀(l:List V),(∀v∈l,v.kind=k∧LeafOk v)→Sims l (plainKids k (l.map fun v=>(v.num,v.text)))
 | [],_=>.nil
 | v::l,h=>by
   obtain⟨h1,h2⟩:=h v (List.mem_cons_self ..)
   have ih:=sims_plain hk l fun u hu=>h u (List.mem_cons_of_mem _ hu)
   have e:=h2.plain
   rw [h1]at e
   have:=Sims.leaf (k:=k) (k':=k) (n:=v.num) (t:=v.text) (o:=v.of) (o':=0) (by omega) (.inl rfl) (fun h=>by omega) ih
   rw [←e]at this
   exact this
theorem plainKids_len(k:Int)(l:List (Nat×List UInt8)):(plainKids k l).length=l.length:=by simp [plainKids]
theorem LeafOk.num{v:V}(h:LeafOk v):v.num<18446744073709551616:=by
 cases h<;>simp only [V.num]<;>first | omega | (rename_i h;have:=h.1;omega)
theorem arr_out{w w':World}{k:Int}(hk:k<20)(l:List V)(o:Int)(h:∀v∈l,v.kind=k∧LeafOk v)(sk:Value)(hown:w'.ownsRow w.heap.size 78 6 sk l.length (plainCells k (l.map fun v=>(v.num,v.text)))):
 ∃u,Sims [.mk 23 0 [] l o []] [u]∧Dep (fun b=>w.heap.size≤b) w' (fun w=>VM w u (.agg #[.int .i64 23,.int .u64 0,.string ⟨#[]⟩,sk,.int .i64 k,.slice none 0 0])):=by
 refine⟨.mk 23 0 [] (plainKids k (l.map fun v=>(v.num,v.text))) k [],.arr hk (fun v hv=>(h v hv).1) (sims_plain hk l h) .nil,?_⟩
 have hrow:RowV w' w.heap.size sk (plainKids k (l.map fun v=>(v.num,v.text))):=⟨_,by rw [plainKids_len,List.length_map];exact hown,fun w2 _=>plain_mem w2 k _ fun x hx=>by
  obtain⟨v,hv,rfl⟩:=List.mem_map.1 hx
  exact(h v hv).2.num⟩
 exact hrow.out.imp fun _ h=>VM.mk (by omega) h LM.nil
theorem num_xs{l:List V}(h:∀v∈l,v.text=[]):(l.map V.num).map (fun x=>(x,([]:List UInt8)))=l.map fun v=>(v.num,v.text):=by
 rw [List.map_map]
 exact List.map_congr_left fun v hv=>by simp [h v hv]
theorem text_xs{l:List V}(h:∀v∈l,v.num=0):(l.map V.text).map (fun x=>((0:Nat),x))=l.map fun v=>(v.num,v.text):=by
 rw [List.map_map]
 exact List.map_congr_left fun v hv=>by simp [h v hv]
theorem LeafOk.facts{v:V}(h:LeafOk v):(v.kind<17→v.text=[])∧(17≤v.kind→v.num=0)∧(v.kind=1→v.num≤1)∧(v.kind=2→v.num<256)∧(v.kind=3→v.num<65536)∧(v.kind=4∨v.kind=10→v.num<4294967296)∧(v.kind=6→Fits 8 v.num)∧(v.kind=7→Fits 16 v.num)∧(v.kind=8→Fits 32 v.num)∧(v.kind=9→Fits 64 v.num)∧(v.kind=17→v.text.length=16):=by
 cases h<;>simp only [V.kind,V.num,V.text]<;>refine⟨?_,?_,?_,?_,?_,?_,?_,?_,?_,?_,?_⟩<;>intro hk<;>first | trivial | rfl | assumption | omega | (exfalso;revert hk;decide)
theorem valued_arr{w:World}{l:List V}{x:Value}(h:GArr w l x)(hne:l≠[])(hmax:l.length≤1000){k:Int}(hk:k<20)(hok:∀v∈l,v.kind=k∧LeafOk v)(o:Int):ValOK w (.mk 23 0 [] l o []) x:=by
 have key:∀k',Plain k' l→k'=k:=fun k' hp=>by
  obtain⟨a,r,rfl⟩:=List.exists_cons_of_ne_nil hne
  obtain⟨n,t,o',e⟩:=hp a (List.mem_cons_self ..)
  have:=(hok a (List.mem_cons_self ..)).1
  rw [e]at this
  exact this
 intro w1 kw
 have fin:∀(K:Int),K=k→(∃xs,xs=l.map (fun v=>(v.num,v.text))∧Calls Tryz.prog 91 #[x] w1 fun e w'=>∃sk,e=.returned (.tuple #[.agg #[.int .i64 23,.int .u64 0,.string ⟨#[]⟩,sk,.int .i64 K,.slice none 0 0],.bool true])∧New w1 w'∧w'.ownsRow w1.heap.size 78 6 sk l.length (plainCells K xs))→
  Calls Tryz.prog 91 #[x] w1 fun e w2=>∃y u,e=.returned (.tuple #[y,.bool true])∧New w1 w2∧Sims [.mk 23 0 [] l o []] [u]∧Dep (fun b=>w1.heap.size≤b) w2 (fun w=>VM w u y):=by
  rintro K rfl ⟨xs,rfl,hc⟩
  refine hc.mono ?_
  rintro e w' ⟨sk,rfl,k',hown⟩
  obtain⟨u,hu1,hu2⟩:=arr_out hk l o hok sk hown
  exact⟨_,u,rfl,k',hu1,hu2⟩
 have T:k<17→∀v∈l,v.text=[]:=fun h v hv=>(hok v hv).2.facts.1 (by rw [(hok v hv).1];exact h)
 have Z:17≤k→∀v∈l,v.num=0:=fun h v hv=>(hok v hv).2.facts.2.1 (by rw [(hok v hv).1];exact h)
 have ln:(l.map V.num).length≤1000:=by simpa using hmax
 have lt:(l.map V.text).length≤1000:=by simpa using hmax
 cases h with
 | cells hT hp hs=>
   obtain⟨d,n,rfl,hc,hd⟩:=hs
   have e:=key _ hp
   cases hT with
   | bool=>
     rw [flat1]at hd hc
     have hn:n=(l.map V.num).length:=by simp at hc ⊢;omega
     subst hn
     refine fin 1 e ⟨_,num_xs (T (by omega)),varr 313 153 147 1 (by simp) _ _ _ _ _ w1 fun w2 k2=>?_⟩
     have:=numbered 153 147 4 (by simp) (fun x=>.bool (x !=0)) (fun x=>x≤1) (fun _ h=>by omega) litFlag 1 (l.map V.num) (fun x hx=>by obtain⟨v,hv,rfl⟩:=List.mem_map.1 hx;exact(hok v hv).2.facts.2.2.1 (by rw [(hok v hv).1];exact e.symm)) ln d w2 ((kw.trans k2).blk (by simpa [List.map_map,Function.comp_def]using hd) trivial)
     simpa using this
   | u16=>
     rw [flat1]at hd hc
     have hn:n=(l.map V.num).length:=by simp at hc ⊢;omega
     subst hn
     refine fin 3 e ⟨_,num_xs (T (by omega)),varr 51 156 157 3 (by simp) _ _ _ _ _ w1 fun w2 k2=>?_⟩
     have:=numbered 156 157 117 (by simp) (fun x=>.int .u16 (x:Int)) (fun x=>x<65536) (fun _ h=>by omega) lit157 3 (l.map V.num) (fun x hx=>by obtain⟨v,hv,rfl⟩:=List.mem_map.1 hx;exact(hok v hv).2.facts.2.2.2.2.1 (by rw [(hok v hv).1];exact e.symm)) ln d w2 ((kw.trans k2).blk (by simpa [List.map_map,Function.comp_def]using hd) trivial)
     simpa using this
   | u32=>
     rw [flat1]at hd hc
     have hn:n=(l.map V.num).length:=by simp at hc ⊢;omega
     subst hn
     refine fin 4 e ⟨_,num_xs (T (by omega)),varr 320 158 159 4 (by simp) _ _ _ _ _ w1 fun w2 k2=>?_⟩
     have:=numbered 158 159 22 (by simp) (fun x=>.int .u32 (x:Int)) (fun x=>x<4294967296) (fun _ h=>by omega) lit159 4 (l.map V.num) (fun x hx=>by obtain⟨v,hv,rfl⟩:=List.mem_map.1 hx;exact(hok v hv).2.facts.2.2.2.2.2.1 (.inl (by rw [(hok v hv).1];exact e.symm))) ln d w2 ((kw.trans k2).blk (by simpa [List.map_map,Function.comp_def]using hd) trivial)
     simpa using this
   | u64=>
     rw [flat1]at hd hc
     have hn:n=(l.map V.num).length:=by simp at hc ⊢;omega
     subst hn
     refine fin 5 e ⟨_,num_xs (T (by omega)),varr 323 160 161 5 (by simp) _ _ _ _ _ w1 fun w2 k2=>?_⟩
     have:=numbered 160 161 26 (by simp) (fun x=>.int .u64 (x:Int)) (fun x=>x<18446744073709551616) (fun _ h=>h) lit161 5 (l.map V.num) (fun x hx=>by obtain⟨v,hv,rfl⟩:=List.mem_map.1 hx;exact(hok v hv).2.num) ln d w2 ((kw.trans k2).blk (by simpa [List.map_map,Function.comp_def]using hd) trivial)
     simpa using this
   | i8=>
     rw [flat1]at hd hc
     have hn:n=(l.map V.num).length:=by simp at hc ⊢;omega
     subst hn
     refine fin 6 e ⟨_,num_xs (T (by omega)),varr 326 162 163 6 (by simp) _ _ _ _ _ w1 fun w2 k2=>?_⟩
     have:=numbered 162 163 191 (by simp) (fun x=>.int .i8 (sgn x)) (fun x=>Fits 8 x) (fun _ h=>h.1) lit163 6 (l.map V.num) (fun x hx=>by obtain⟨v,hv,rfl⟩:=List.mem_map.1 hx;exact(hok v hv).2.facts.2.2.2.2.2.2.1 (by rw [(hok v hv).1];exact e.symm)) ln d w2 ((kw.trans k2).blk (by simpa [List.map_map,Function.comp_def]using hd) trivial)
     simpa using this
   | i16=>
     rw [flat1]at hd hc
     have hn:n=(l.map V.num).length:=by simp at hc ⊢;omega
     subst hn
     refine fin 7 e ⟨_,num_xs (T (by omega)),varr 329 164 165 7 (by simp) _ _ _ _ _ w1 fun w2 k2=>?_⟩
     have:=numbered 164 165 195 (by simp) (fun x=>.int .i16 (sgn x)) (fun x=>Fits 16 x) (fun _ h=>h.1) lit165 7 (l.map V.num) (fun x hx=>by obtain⟨v,hv,rfl⟩:=List.mem_map.1 hx;exact(hok v hv).2.facts.2.2.2.2.2.2.2.1 (by rw [(hok v hv).1];exact e.symm)) ln d w2 ((kw.trans k2).blk (by simpa [List.map_map,Function.comp_def]using hd) trivial)
     simpa using this
   | i32=>
     rw [flat1]at hd hc
     have hn:n=(l.map V.num).length:=by simp at hc ⊢;omega
     subst hn
     refine fin 8 e ⟨_,num_xs (T (by omega)),varr 332 166 167 8 (by simp) _ _ _ _ _ w1 fun w2 k2=>?_⟩
     have:=numbered 166 167 21 (by simp) (fun x=>.int .i32 (sgn x)) (fun x=>Fits 32 x) (fun _ h=>h.1) lit167 8 (l.map V.num) (fun x hx=>by obtain⟨v,hv,rfl⟩:=List.mem_map.1 hx;exact(hok v hv).2.facts.2.2.2.2.2.2.2.2.1 (by rw [(hok v hv).1];exact e.symm)) ln d w2 ((kw.trans k2).blk (by simpa [List.map_map,Function.comp_def]using hd) trivial)
     simpa using this
   | i64=>
     rw [flat1]at hd hc
     have hn:n=(l.map V.num).length:=by simp at hc ⊢;omega
     subst hn
     refine fin 9 e ⟨_,num_xs (T (by omega)),varr 335 168 169 9 (by simp) _ _ _ _ _ w1 fun w2 k2=>?_⟩
     have:=numbered 168 169 2 (by simp) (fun x=>.int .i64 (sgn x)) (fun x=>Fits 64 x) (fun _ h=>h.1) lit169 9 (l.map V.num) (fun x hx=>by obtain⟨v,hv,rfl⟩:=List.mem_map.1 hx;exact(hok v hv).2.facts.2.2.2.2.2.2.2.2.2.1 (by rw [(hok v hv).1];exact e.symm)) ln d w2 ((kw.trans k2).blk (by simpa [List.map_map,Function.comp_def]using hd) trivial)
     simpa using this
   | f32=>
     rw [flat1]at hd hc
     have hn:n=(l.map V.num).length:=by simp at hc ⊢;omega
     subst hn
     refine fin 10 e ⟨_,num_xs (T (by omega)),varr 338 170 171 10 (by simp) _ _ _ _ _ w1 fun w2 k2=>?_⟩
     have:=numbered 170 171 212 (by simp) (fun x=>.float .f32 x) (fun x=>x<4294967296) (fun _ h=>by omega) lit171 10 (l.map V.num) (fun x hx=>by obtain⟨v,hv,rfl⟩:=List.mem_map.1 hx;exact(hok v hv).2.facts.2.2.2.2.2.1 (.inr (by rw [(hok v hv).1];exact e.symm))) ln d w2 ((kw.trans k2).blk (by simpa [List.map_map,Function.comp_def]using hd) trivial)
     simpa using this
   | f64=>
     rw [flat1]at hd hc
     have hn:n=(l.map V.num).length:=by simp at hc ⊢;omega
     subst hn
     refine fin 11 e ⟨_,num_xs (T (by omega)),varr 341 172 149 11 (by simp) _ _ _ _ _ w1 fun w2 k2=>?_⟩
     have:=numbered_f64 11 (l.map V.num) (fun x hx=>by obtain⟨v,hv,rfl⟩:=List.mem_map.1 hx;exact(hok v hv).2.num) ln d w2 ((kw.trans k2).blk (by simpa [List.map_map,Function.comp_def]using hd) trivial)
     simpa using this
   | time=>
     have hfl:=(flatF (F:=fun v:V=>timeC (sgn v.num)) (sz:=2) (fun _=>rfl) l).1
     have hn:n=(l.map V.num).length:=by rw [hfl]at hc;simp;omega
     subst hn
     refine fin 16 e ⟨_,num_xs (T (by omega)),varr 343 173 174 16 (by simp) _ _ _ _ _ w1 fun w2 k2=>?_⟩
     have:=numbered_time 16 (l.map V.num) (fun x hx=>by obtain⟨v,hv,rfl⟩:=List.mem_map.1 hx;exact(hok v hv).2.num) ln d w2 ((kw.trans k2).blk (by simpa [List.map_map,Function.comp_def]using hd) trivial)
     simpa using this
   | uuid=>
     have h16:∀v∈l,v.text.length=16:=fun v hv=>(hok v hv).2.facts.2.2.2.2.2.2.2.2.2.2 (by rw [(hok v hv).1];exact e.symm)
     have hfl:=(flatF' (F:=fun v:V=>uuidC v.text) (sz:=16) l (fun v hv=>by simp [uuidC,h16 v hv])).1
     have hn:n=(l.map V.text).length:=by rw [hfl]at hc;simp;omega
     subst hn
     refine fin 17 e ⟨_,text_xs (Z (by omega)),varr 346 175 176 17 (by simp) _ _ _ _ _ w1 fun w2 k2=>?_⟩
     have:=worded_uuid 17 (l.map V.text) (fun x hx=>by obtain⟨v,hv,rfl⟩:=List.mem_map.1 hx;exact h16 v hv) lt d w2 ((kw.trans k2).blk (by simpa [List.map_map,Function.comp_def]using hd) trivial)
     simpa using this
   | str=>
     rw [flat1]at hd hc
     have hn:n=(l.map V.text).length:=by simp at hc ⊢;omega
     subst hn
     refine fin 19 e ⟨_,text_xs (Z (by omega)),varr 52 179 180 19 (by simp) _ _ _ _ _ w1 fun w2 k2=>?_⟩
     have:=worded_str 19 (l.map V.text) lt d w2 ((kw.trans k2).blk (by simpa [List.map_map,Function.comp_def]using hd) trivial)
     simpa using this
   | sym=>omega
 | ubyte hp hs=>
   have e:=key _ hp
   obtain⟨A,c,rfl,h1,h2,h3⟩:=hs
   obtain⟨d,i,rfl,hb⟩:=h3 (by simpa using hne)
   have hx:(l.map fun v=>UInt8.ofNat v.num).map (fun x=>(x.toNat,([]:List UInt8)))=l.map fun v=>(v.num,v.text):=by
    rw [List.map_map]
    refine List.map_congr_left fun v hv=>?_
    have h:=(hok v hv).2.facts.2.2.2.1 (by rw [(hok v hv).1];exact e.symm)
    have ht:=T (by omega) v hv
    simp [ht]
    omega
   refine fin 2 e ⟨_,hx,varr 315 154 155 2 (by simp) _ _ _ _ _ w1 fun w2 k2=>?_⟩
   have:=numbered_u8 2 (l.map fun v=>UInt8.ofNat v.num) (by simpa using hmax) d i c h1 h2 w2 (hb.new (kw.trans k2))
   simpa using this
 | bin hp hs=>
   have e:=key _ hp
   obtain⟨d,cs,rfl,hd,hsz,hat⟩:=hs
   refine fin 18 e ⟨_,text_xs (Z (by omega)),varr 349 177 178 18 (by simp) _ _ _ _ _ w1 fun w2 k2=>?_⟩
   have:=worded_bin 18 (l.map V.text) lt w2 d cs (fun j hj=>by
    obtain⟨u,hu,hs⟩:=hat j hj
    exact⟨u,hu,hs.new (kw.trans k2)⟩) ((kw.trans k2).blk hd trivial)
   simpa using this
inductive NSA:List V→Prop where
 | nil:NSA []
 | cons {k:Int} {n:Nat} {t:List UInt8} {ks ds vs:List V} {o:Int} (h:k=23→∀v∈ks,v.kind≠20) (hk:NSA ks) (hs:NSA vs):NSA (.mk k n t ks o ds::vs)
theorem NSA.mem{l:List V}:NSA l↔∀v∈l,NSA [v]:=by
 constructor
 ·intro h
  induction h with
  | nil=>intro v hv;simp at hv
  | cons h hk hs _ ih=>
    intro v hv
    rcases List.mem_cons.1 hv with rfl | hv
    ·exact .cons h hk .nil
    ·exact ih v hv
 ·intro h
  induction l with
  | nil=>exact .nil
  | cons v l ih=>
    have h1:=h v (List.mem_cons_self ..)
    cases h1 with
    | cons h1 hk _=>exact .cons h1 hk (ih fun u hu=>h u (List.mem_cons_of_mem _ hu))
theorem AbleL.mem{l:List V}:AbleL l↔∀v∈l,AbleL [v]:=by
 constructor
 ·intro h
  induction h with
  | nil=>intro v hv;simp at hv
  | leaf h hs ih=>exact fun v hv=>(List.mem_cons.1 hv).elim (fun e=>e▸.leaf h .nil) (ih v)
  | list hk hm hs _ ih=>exact fun v hv=>(List.mem_cons.1 hv).elim (fun e=>e▸.list hk hm .nil) (ih v)
  | map hk hm ok hs _ ih=>exact fun v hv=>(List.mem_cons.1 hv).elim (fun e=>e▸.map hk hm ok .nil) (ih v)
  | arr hk hm hne hs ih=>exact fun v hv=>(List.mem_cons.1 hv).elim (fun e=>e▸.arr hk hm hne .nil) (ih v)
 ·intro h
  induction l with
  | nil=>exact .nil
  | cons v l ih=>
    have h1:=h v (List.mem_cons_self ..)
    have h2:=ih fun u hu=>h u (List.mem_cons_of_mem _ hu)
    cases h1 with
    | leaf h _=>exact .leaf h h2
    | list hk hm _=>exact .list hk hm h2
    | map hk hm ok _=>exact .map hk hm ok h2
    | arr hk hm hne _=>exact .arr hk hm hne h2
theorem flat2_mem{v:V}:∀{ps:List (V×V)},v∈flat2 ps↔∃q∈ps,v=q.1∨v=q.2
 | []=>by simp [flat2]
 | q::ps=>by simp [flat2,flat2_mem (ps:=ps),or_assoc]
theorem AbleL.perm{ps qs:List (V×V)}(h:ps.Perm qs)(k:AbleL (flat2 ps)):AbleL (flat2 qs):=by
 rw [AbleL.mem]at k ⊢
 intro v hv
 rw [flat2_mem]at hv
 obtain⟨q,hq,e⟩:=hv
 exact k v (flat2_mem.2 ⟨q,h.mem_iff.2 hq,e⟩)
theorem NSA.perm{ps qs:List (V×V)}(h:ps.Perm qs)(k:NSA (flat2 ps)):NSA (flat2 qs):=by
 rw [NSA.mem]at k ⊢
 intro v hv
 rw [flat2_mem]at hv
 obtain⟨q,hq,e⟩:=hv
 exact k v (flat2_mem.2 ⟨q,h.mem_iff.2 hq,e⟩)
theorem MapOk.perm{ps qs:List (V×V)}(h:ps.Perm qs)(k:MapOk ps):MapOk qs:=
 ⟨fun q hq=>k.kinds q (h.mem_iff.2 hq),(h.map fun q=>rk q.1).nodup k.once⟩
theorem AbleL.list_inv{ks vs:List V}{o:Int}(h:AbleL (.mk 21 0 [] ks o []::vs)):AbleL ks∧ks.length≤1000∧AbleL vs:=by
 cases h with
 | leaf h _=>cases h
 | list hk hm hs=>exact⟨hk,hm,hs⟩
theorem flat2_inj:∀{ps qs:List (V×V)},flat2 ps=flat2 qs→ps=qs
 | [],[],_=>rfl
 | [],q::qs,h=>by simp [flat2]at h
 | p::ps,[],h=>by simp [flat2]at h
 | (a,b)::ps,(c,d)::qs,h=>by
   simp only [flat2,List.cons.injEq]at h
   obtain⟨rfl,rfl,h⟩:=h
   rw [flat2_inj h]
theorem AbleL.map_inv{ps:List (V×V)}{vs:List V}{o:Int}(h:AbleL (.mk 22 0 [] (flat2 ps) o []::vs)):AbleL (flat2 ps)∧2*ps.length≤1000∧MapOk ps∧AbleL vs:=by
 generalize hx:(.mk 22 0 [] (flat2 ps) o []:V)=x at h
 cases h with
 | leaf h _=>rw [←hx]at h;cases h
 | list hk hm hs=>simp at hx
 | map hk hm ok hs=>
   simp only [V.mk.injEq,true_and,and_true]at hx
   obtain rfl:=flat2_inj hx.1
   exact⟨hk,hm,ok,hs⟩
 | arr hk hm hne hs=>simp at hx
theorem AbleL.arr_inv{ks vs:List V}{o:Int}(h:AbleL (.mk 23 0 [] ks o []::vs)):(∃k,ArrOk k ks)∧ks.length≤1000∧ks≠[]∧AbleL vs:=by
 cases h with
 | leaf h _=>cases h
 | arr hk hm hne hs=>exact⟨⟨_,hk⟩,hm,hne,hs⟩
theorem AbleL.tail{v:V}{vs:List V}(h:AbleL (v::vs)):AbleL vs:=by
 cases h<;>assumption
theorem NSA.tail{v:V}{vs:List V}(h:NSA (v::vs)):NSA vs:=by
 cases h;assumption
theorem NSA.kids{k:Int}{n:Nat}{t:List UInt8}{ks ds vs:List V}{o:Int}(h:NSA (.mk k n t ks o ds::vs)):NSA ks∧(k=23→∀v∈ks,v.kind≠20):=by
 cases h with
 | cons h hk _=>exact⟨hk,h⟩
theorem ValOK.mono{w w1:World}{v:V}{x:Value}(h:ValOK w v x)(k:New w w1):ValOK w1 v x:=fun w2 k2=>h w2 (k.trans k2)
theorem valOK_leaf{w:World}{v:V}{x:Value}(h:GLeaf w v x)(hok:LeafOk v):ValOK w v x:=by
 intro w1 k
 refine(valued_leaf (h.new k)).mono ?_
 rintro e w2 ⟨rfl,k2⟩
 have hp:=hok.plain
 have hn:=hok.num
 obtain⟨k0,n,t,ks,o,ds⟩:=v
 simp only [V.kind,V.num,V.text,V.of,V.mk.injEq,true_and]at hp hn ⊢
 obtain⟨rfl,rfl⟩:=hp
 refine⟨_,.mk (if k0=20 then 19 else k0) n t [] 0 [],rfl,k2,?_,fun w3 _=>⟨_,rfl,mem_plain w3 _ n t hn⟩⟩
 refine .leaf ?_ ?_ ?_ .nil
 ·cases hok<;>omega
 ·by_cases h20:k0=20
  ·exact .inr ⟨h20,by rw [if_pos h20]⟩
  ·exact .inl (by rw [if_neg h20])
 ·intro h20
  subst h20
  cases hok
  rfl
def PairsOK(w:World)(m:Nat)(qs:List (V×V)):Prop:=
 ∀w1,New w w1→Calls Tryz.prog 152 #[.map (some m)] w1 fun e w'=>∃s us,e=.returned (.tuple #[s,.bool true])∧New w1 w'∧(∃qs',qs.Perm qs'∧Sims (flat2 qs') us)∧Dep (fun b=>w1.heap.size≤b) w' (fun w=>LM w us s)
def PairsC(w:World):Prop:=∀(m:Nat) (es:Array MapEntry) (clock:Nat) (qs:List (V×V)),w.heap[m]? =some (.map es clock)→Born es clock→es.size=qs.length→qs.length≤500→MapOk qs→
 (∀j (hj:j<qs.length) (he:j<es.size),GLeaf w qs[j].1 es[j].key∧LeafOk qs[j].1∧ValOK w qs[j].2 es[j].val)→PairsOK w m qs
theorem GVs.two{w:World}:∀{qs:List (V×V)} {es:List MapEntry} {f:Value→Value},GVs w (flat2 qs) (es.flatMap fun e=>[f e.key,e.val])→es.length=qs.length∧∀j (hj:j<qs.length) (he:j<es.length),GV w qs[j].1 (f es[j].key)∧GV w qs[j].2 es[j].val
 | [],[],_,_=>⟨rfl,fun j hj=>absurd hj (by simp)⟩
 | [],e::es,_,h=>by simp only [flat2,List.flatMap_cons]at h;cases h
 | q::qs,[],_,h=>by
   have:=h.len
   simp [flat2]at this
 | (a,b)::qs,e::es,f,h=>by
   simp only [flat2,List.flatMap_cons,List.cons_append,List.nil_append]at h
   obtain⟨h1,h2⟩:=h.inv
   obtain⟨h3,h4⟩:=h2.inv
   obtain⟨i1,i2⟩:=GVs.two h4
   refine⟨by simp [i1],fun j hj he=>?_⟩
   cases j with
   | zero=>exact⟨h1,h3⟩
   | succ j=>exact i2 j (by simpa using hj) (by simpa using he)
theorem flat2_get(qs:List (V×V)):∀j (hj:j<qs.length),∃(h1:2*j<(flat2 qs).length) (h2:2*j+1<(flat2 qs).length),(flat2 qs)[2*j]=qs[j].1∧(flat2 qs)[2*j+1]=qs[j].2:=by
 induction qs with
 | nil=>intro j hj;simp at hj
 | cons q qs ih=>
   intro j hj
   cases j with
   | zero=>exact⟨by simp [flat2],by simp [flat2],rfl,rfl⟩
   | succ j=>
     obtain⟨h1,h2,h3,h4⟩:=ih j (by simpa using hj)
     refine⟨by simp [flat2];omega,by simp [flat2];omega,?_,?_⟩
     ·have e:2*(j+1)=2*j+1+1:=by omega
      simp only [flat2,e,List.getElem_cons_succ]
      exact h3
     ·have e:2*(j+1)+1=2*j+1+1+1:=by omega
      simp only [flat2,e,List.getElem_cons_succ]
      exact h4
theorem flat_get(f:MapEntry→Value):∀(l:List MapEntry) (j:Nat) (hj:j<l.length) (h:2*j+1<(l.flatMap fun e=>[f e,e.val]).length),(l.flatMap fun e=>[f e,e.val])[2*j+1]=l[j].val
 | [],j,hj,_=>absurd hj (by simp)
 | e::l,0,_,_=>rfl
 | e::l,j+1,hj,h=>by
   have e1:2*(j+1)+1=2*j+1+1+1:=by omega
   simp only [List.flatMap_cons,List.cons_append,List.nil_append,e1,List.getElem_cons_succ]
   exact flat_get f l j (by simpa using hj) _
theorem texts_keys{w:World}{qs:List (V×V)}(hok:MapOk qs)(hL:AbleL (flat2 qs)){ks:Nat→Value}(h:∀j (hj:j<qs.length),GV w qs[j].1 (.iface 9 (ks j))):
 (∀j (hj:j<qs.length),ks j=.string ⟨qs[j].1.text.toArray⟩)∧(qs.map fun q=>q.1.text).Nodup∧∀q∈qs,∃k0 o,q.1=.mk k0 0 q.1.text [] o []∧(k0=19∨k0=20∧(19:Int)=19):=by
 have main:∀j (hj:j<qs.length),ks j=.string ⟨qs[j].1.text.toArray⟩∧∃k0 o,qs[j].1=.mk k0 0 qs[j].1.text [] o []∧(k0=19∨k0=20):=fun j hj=>by
  have hk:=hok.kinds _ (List.getElem_mem hj)
  have hg:=(h j hj).leaf hk
  generalize qs[j].1=v at hg
  generalize ks j=y at hg
  generalize hx:Value.iface 9 y=x at hg
  cases hg<;>simp at hx
  ·exact⟨hx,_,_,rfl,.inl rfl⟩
  ·exact⟨hx,_,_,rfl,.inr rfl⟩
 refine⟨fun j hj=>(main j hj).1,?_,fun q hq=>?_⟩
 ·have h1:=hok.once
  rw [List.nodup_iff_pairwise_ne,List.pairwise_map]at h1 ⊢
  refine h1.imp_of_mem fun {a b} ha hb hab e=>hab ?_
  obtain⟨i,hi,rfl⟩:=List.getElem_of_mem ha
  obtain⟨j,hj,rfl⟩:=List.getElem_of_mem hb
  obtain⟨_,k1,o1,e1,c1⟩:=main i hi
  obtain⟨_,k2,o2,e2,c2⟩:=main j hj
  have f1:rk qs[i].1=(19,0,qs[i].1.text):=by
   rw [e1]
   rcases c1 with rfl | rfl<;>rfl
  have f2:rk qs[j].1=(19,0,qs[j].1.text):=by
   rw [e2]
   rcases c2 with rfl | rfl<;>rfl
  rw [f1,f2,e]
 ·obtain⟨j,hj,rfl⟩:=List.getElem_of_mem hq
  obtain⟨_,k0,o,e,c⟩:=main j hj
  exact⟨k0,o,e,c.elim .inl fun c=>.inr ⟨c,rfl⟩⟩
theorem AbleL.leaf_of{v:V}(h:AbleL [v])(hk:KeyK v.kind):LeafOk v:=by
 cases h with
 | leaf h _=>exact h
 | _=>simp [KeyK,V.kind]at hk
theorem able_key{qs:List (V×V)}(hok:MapOk qs)(hL:AbleL (flat2 qs))(j:Nat)(hj:j<qs.length):LeafOk qs[j].1:=
 (AbleL.mem.1 hL _ (flat2_mem.2 ⟨_,List.getElem_mem hj,.inl rfl⟩)).leaf_of (hok.kinds _ (List.getElem_mem hj))
theorem valued_of{w:World}(PC:PairsC w){l:List V}{xs:List Value}(h:GVs w l xs):AbleL l→NSA l→∀j (hj:j<l.length) (hx:j<xs.length),ValOK w l[j] xs[j]:=by
 have cons:∀{v:V} {x:Value} {vs:List V} {xs:List Value},ValOK w v x→(∀j (hj:j<vs.length) (hx:j<xs.length),ValOK w vs[j] xs[j])→∀j (hj:j<(v::vs).length) (hx:j<(x::xs).length),ValOK w (v::vs)[j] (x::xs)[j]:=by
  intro v x vs xs h1 h2 j hj hx
  cases j with
  | zero=>exact h1
  | succ j=>exact h2 j (by simpa using hj) (by simpa using hx)
 induction h with
 | nil=>intro _ _ j hj;simp at hj
 | leaf h hs ih=>
   intro hA hN
   refine cons (valOK_leaf h ?_) (ih hA.tail hN.tail)
   cases hA with
   | leaf h _=>exact h
   | list hk hm _=>cases h
   | map hk hm ok _=>cases h
   | arr hk hm hne _=>cases h
 | list0 hs ih=>
   intro hA hN
   refine cons (fun w1 k1=>?_) (ih hA.tail hN.tail)
   refine(vsub_list none 0 0 (fun us=>us=[]) w1 fun w2 k2=>(listed_nil w2).mono ?_).mono ?_
   ·rintro e w' ⟨rfl,k⟩
    exact⟨_,[],rfl,k,rfl,fun _ _=>LM.nil⟩
   ·rintro e w2 ⟨y,us,rfl,k2,rfl,hd⟩
    exact⟨_,_,rfl,k2,.list .nil .nil,hd⟩
 | list hd hk hne hs ih1 ih2=>
   rename_i o d kids vs us xs
   intro hA hN
   obtain⟨hA1,hA2,hA3⟩:=hA.list_inv
   refine cons (fun w1 k1=>?_) (ih2 hA3 hN.tail)
   have hlen:=hk.len
   refine(vsub_list (some ⟨d,0,none⟩) kids.length kids.length (fun ls=>Sims kids ls) w1 fun w2 k2=>?_).mono ?_
   ·have:=listed_is kids us d w2 ((k1.trans k2).blk hd trivial) hlen (by omega) fun j hj hx=>(ih1 hA1 hN.kids.1 j hj hx).mono (k1.trans k2)
    rw [←hlen]at this
    exact this
   ·rintro e w2 ⟨y,ls,rfl,k2,hl,hd⟩
    exact⟨_,_,rfl,k2,.list hl .nil,hd⟩
 | map hd hb hp hk hs ih1 ih2=>
   rename_i o r clock ps qs vs es xs
   intro hA hN
   obtain⟨hA1,hA2,hA3,hA4⟩:=hA.map_inv
   refine cons (fun w1 k1=>?_) (ih2 hA4 hN.tail)
   have hA1':=hA1.perm hp
   have hN':=hN.kids.1.perm hp
   obtain⟨hlen,htwo⟩:=GVs.two (f:=fun x=>x) hk
   have hpl:=hp.length_eq
   have hlenf:=hk.len
   have hok':=hA3.perm hp
   have PO:=PC r es clock qs hd hb (by simpa using hlen) (by omega) hok' fun j hj he=>by
    have h2:=(htwo j hj (by simpa using he)).1
    refine⟨by simpa using h2.leaf (hok'.kinds _ (List.getElem_mem hj)),able_key hok' hA1' j hj,?_⟩
    obtain⟨f1,f2,_,f4⟩:=flat2_get qs j hj
    have:=ih1 hA1' hN' (2*j+1) f2 (by rw [←hlenf];exact f2)
    rw [f4]at this
    have e:(es.toList.flatMap fun e=>[e.key,e.val])[2*j+1]'(by rw [←hlenf];exact f2)=es[j].val:=by
     exact flat_get (fun e=>e.key) es.toList j (by simpa using he) _
    rwa [e]at this
   refine(vsub_pairs (some r) (fun us=>∃qs',qs.Perm qs'∧Sims (flat2 qs') us) w1 fun w2 k2=>PO w2 (k1.trans k2)).mono ?_
   rintro e w2 ⟨y,ls,rfl,k2,⟨qs',hq,hl⟩,hd⟩
   refine⟨_,_,rfl,k2,.map (hp.trans hq) (fun q hq=>?_) hl .nil,hd⟩
   have:=hA3.kinds q hq
   unfold KeyK at this
   omega
 | texts hd hb hp hk hs ih1 ih2=>
   rename_i o r clock ps qs vs es xs
   intro hA hN
   obtain⟨hA1,hA2,hA3,hA4⟩:=hA.map_inv
   refine cons (fun w1 k1=>?_) (ih2 hA4 hN.tail)
   have hA1':=hA1.perm hp
   have hN':=hN.kids.1.perm hp
   obtain⟨hlen,htwo⟩:=GVs.two (f:=fun x=>.iface 9 x) hk
   have hpl:=hp.length_eq
   have hlenf:=hk.len
   have hok':=hA3.perm hp
   have hsz:es.size=qs.length:=by simpa using hlen
   obtain⟨t1,t2,t3⟩:=texts_keys (ks:=fun j=>if h:j<es.size then es[j].key else .nilIface) hok' hA1' fun j hj=>by
    have:=(htwo j hj (by simpa using (by omega:j<es.size))).1
    have he:j<es.size:=by omega
    simpa [he]using this
   have M:∀w2,New w1 w2→TMap w2 r es clock qs:=fun w2 k2=>⟨(k1.trans k2).blk hd trivial,hb,hsz,fun j hj he=>by simpa [he]using t1 j hj,fun j hj he=>by
    obtain⟨f1,f2,_,f4⟩:=flat2_get qs j hj
    have:=ih1 hA1' hN' (2*j+1) f2 (by rw [←hlenf];exact f2)
    rw [f4]at this
    have e:(es.toList.flatMap fun e=>[.iface 9 e.key,e.val])[2*j+1]'(by rw [←hlenf];exact f2)=es[j].val:=by
     exact flat_get (fun e=>.iface 9 e.key) es.toList j (by simpa using he) _
    rw [e]at this
    exact this.mono (k1.trans k2),t2⟩
   refine(vsub_texts (some r) (fun us=>∃qs',qs.Perm qs'∧Sims (flat2 qs') us) w1 fun w2 k2=>(textPairs_str 19 (.inl rfl) r es clock qs w2 (M w2 k2) (by omega) t3).mono ?_).mono ?_
   ·rintro e w' ⟨s,us,qs',rfl,k,hq,hl,_,hd⟩
    exact⟨s,us,rfl,k,⟨qs',hq,hl⟩,hd⟩
   ·rintro e w2 ⟨y,ls,rfl,k2,⟨qs',hq,hl⟩,hd⟩
    refine⟨_,_,rfl,k2,.map (hp.trans hq) (fun q hq=>?_) hl .nil,hd⟩
    have:=hA3.kinds q hq
    unfold KeyK at this
    omega
 | arr h hne hs ih=>
   intro hA hN
   obtain⟨⟨k,hk⟩,hm,hne,hA2⟩:=hA.arr_inv
   refine cons ?_ (ih hA2 hN.tail)
   refine valued_arr h hne hm (k:=k) ?_ (fun v hv=>⟨(hk.all v hv).1,(hk.all v hv).2.1⟩) _
   obtain⟨a,r,rfl⟩:=List.exists_cons_of_ne_nil hne
   have h1:=hN.kids.2 rfl a (List.mem_cons_self ..)
   have h2:=(hk.all a (List.mem_cons_self ..)).1
   have h3:=hk.kind
   omega
theorem range_nil(w:World)(t k e:TypeId)(ht:Tryz.prog.underlying t=some (.map k e)):(Instr.range t (.map none)).run Tryz.prog w=.ok (.pointer (some ⟨w.heap.size,0,none⟩)) (w.alloc (.mapIter none 0 #[] 0)):=by
 simp [Instr.range,run_underlying ht,newObj]
 rfl
theorem next_nil(w:World)(r:Nat)(hr:w.heap[r]? =some (.mapIter none 0 #[] 0))(ty:TypeId):(Instr.next (.pointer (some ⟨r,0,none⟩)) false ty).run Tryz.prog w=.ok (.tuple #[.bool false]) w:=by
 simp [Instr.next,getObj,Sem.run,hr,choose,Question.forced,Result.andThen]
theorem copied_is(w:World)(v:Value)(l:List UInt8)(hv:SlB w v l)(hl:l.length≤1099511627776):
 Calls Tryz.prog 24 #[v] w fun e w'=>∃v',e=.returned v'∧New w w'∧Dep (fun b=>w.heap.size≤b) w' (fun w=>SlB w v' l)∧(∃A c,v'=.slice A l.length c)∧∀d i c n,v'=.slice (some ⟨d,i,none⟩) n c→i=0:=by
 have hrow:RowB (w.alloc (.cells #[] 5)) w.heap.size (.slice (some ⟨w.heap.size,0,none⟩) 0 0) []:=
  ⟨rfl,.inr ⟨w.heap.size,0,#[],rfl,Nat.le_refl _,blk_new _ _,Nat.le_refl _,Nat.zero_le _,rfl,rfl⟩⟩
 have kA:=(Keep.refl (fun _=>True) w).alloc (.cells #[] 5)
 obtain⟨sk,w2,hr,hrow2,k2,_⟩:=hrow.app (hv.new kA) (by simpa using hl) (by simp)
 have HR:=Lib.hid hr
 obtain⟨A,c,hsh,_⟩:=hv
 subst hsh
 clear hr
 go_enter Tryz.func24,Tryz.ntmps24
 go_wp2_with (at_builtin;refine wpList_append_eq rfl _ _ 27 rfl _ _ _ _ rfl rfl HR.out ?_)
 go_ret
 refine⟨_,rfl,kA.then k2 (fun i hi _=>by simp [Value.ownBlock];omega),hrow2.out,by simpa using hrow2.shape,fun d i c n he=>?_⟩
 rcases hrow2.2 with⟨e,_⟩ | ⟨g,cap,cur,e,_⟩
 ·rw [e]at he;cases he
 ·rw [e]at he;cases he;rfl
theorem newBuf_is(w:World)(v:Value)(l:List UInt8)(hv:SlB w v l)(hne:l≠[])(hl:l.length≤1099511627776)(hA:∀d i c n,v=.slice (some ⟨d,i,none⟩) n c→i=0):
 Calls Tryz.prog 23 #[v] w fun e w'=>e=.returned (.pointer (some ⟨w.heap.size,0,none⟩))∧New w w'∧Buf w' w.heap.size l:=by
 obtain⟨A,c,rfl,h1,h2,h3⟩:=hv
 obtain⟨d,i,rfl,hb⟩:=h3 hne
 obtain rfl:=hA d i c _ rfl
 go_enter Tryz.func23,Tryz.ntmps23
 go_wp2
 go_ret
 have k:=(Keep.refl (fun _=>True) w).alloc (.cells #[.slice (some ⟨d,0,none⟩) l.length c,.int .i64 0] 122)
 obtain⟨cells,hd,hc⟩:=hb
 exact⟨rfl,k,d,l.length,c,0,blk_new _ _,lt_blk hd,⟨cells,k.blk hd trivial,hc⟩,by omega,h1,h2,hl⟩
def BufW(w:World)(g n:Nat):Prop:=∃(sk:Value) (bs:List UInt8),w.heap[g]? =some (.cells #[sk,.int .i64 0] 122)∧RowB w (g+1) sk bs∧bs.length≤n
theorem BufW.keep{w w':World}{g n:Nat}(h:BufW w g n)(k:Keep (fun b=>g≤b) w w'):BufW w' g n:=by
 obtain⟨sk,bs,h1,h2,h3⟩:=h
 exact⟨sk,bs,k.blk h1 (Nat.le_refl _),h2.keep k (fun b hb=>by omega),h3⟩
theorem BufW.new{w w':World}{g n:Nat}(h:BufW w g n)(k:New w w'):BufW w' g n:=h.keep (k.keep _)
theorem BufW.mono{w:World}{g n m:Nat}(h:BufW w g n)(hm:n≤m):BufW w g m:=by
 obtain⟨sk,bs,h1,h2,h3⟩:=h
 exact⟨sk,bs,h1,h2,by omega⟩
theorem BufW.lt{w:World}{g n:Nat}(h:BufW w g n):g<w.heap.size:=by
 obtain⟨sk,bs,h1,_⟩:=h
 exact lt_blk h1
theorem BufW.set{w:World}{g n:Nat}{sk sk':Value}{bs:List UInt8}(h1:w.heap[g]? =some (.cells #[sk,.int .i64 0] 122))(h2:RowB w (g+1) sk' bs)(h3:bs.length≤n):BufW (w.setCell ⟨g,0,none⟩ sk') g n:=
 ⟨sk',bs,by simpa using blk_set h1 0 sk',h2.keep ((Keep.refl (fun k=>k≠g) w).setCell (.inr (by simp)) sk') (fun b hb=>by omega),h3⟩
theorem bytes_at(w:World)(l:List UInt8)(cs:Array Value)(hc:cs=(l.map fun x=>Value.int .u8 (x.toNat:Int)).toArray)(hl:l.length≤100):SlB (w.alloc (.cells cs 5)) (.slice (some ⟨w.heap.size,0,none⟩) l.length l.length) l:=
 ⟨_,l.length,rfl,Nat.le_refl _,by omega,fun _=>⟨w.heap.size,0,rfl,_,blk_new _ _,fun j hj=>by
   subst hc
   rw [Nat.zero_add]
   simp [hj]⟩⟩
theorem byte_nat{n:Nat}(h:n<256):(((UInt8.ofNat n).toNat:Nat):Int)=(n:Int):=by
 have:(UInt8.ofNat n).toNat=n:=by
  rw [UInt8.toNat_ofNat']
  exact Nat.mod_eq_of_lt h
 rw [this]
theorem byte_in{x:Int}(h:0≤x∧x<256):(((UInt8.ofNat x.toNat).toNat:Nat):Int)=x:=by
 rw [byte_nat (by omega)]
 omega
theorem byte_int{x:Int}:(((UInt8.ofNat (IntKind.u8.wrap x).toNat).toNat:Nat):Int)=IntKind.u8.wrap x:=by
 have h:=IntKind.wrap_u8 x
 rw [byte_nat (by omega)]
 omega
theorem BufW.app{w:World}{g n:Nat}(h:BufW w g n)(w1:World)(k:New w w1){v:Value}{l:List UInt8}(hv:SlB w1 v l)(hn:n+l.length≤1099511627776):
 ∃sk sk' w',(∃A n c,sk'=.slice A n c)∧w1.heap[g]? =some (.cells #[sk,.int .i64 0] 122)∧w1.frozen? ⟨g,0,none⟩=false∧w1.cell? ⟨g,0,none⟩=some sk∧(Builtin.append_ #[27,27] 27 #[sk,v]).run Tryz.prog w1=.ok sk' w'∧w'.cell? ⟨g,0,none⟩=some sk∧w'.frozen? ⟨g,0,none⟩=false∧BufW (w'.setCell ⟨g,0,none⟩ sk') g (n+l.length)∧Keep (fun b=>b<g) w (w'.setCell ⟨g,0,none⟩ sk')∧Keep (fun b=>b<g∨w.heap.size≤b) w1 (w'.setCell ⟨g,0,none⟩ sk'):=by
 obtain⟨sk,bs,h0,h2,h3⟩:=h
 have hlow:∀b,sk.ownBlock=some b→b<w.heap.size:=fun b hb=>h2.lt hb
 have hg0:=lt_blk h0
 have h1:=k.blk h0 trivial
 replace h2:=h2.keep k (fun _ _=>trivial)
 have hlt:=lt_blk h1
 obtain⟨sk',w',hr,hrow,kp,_⟩:=h2.app hv (by omega) (by omega)
 have hne:some g≠sk.ownBlock:=h2.far g (by omega)
 have hb:=kp.blk h1 hne
 refine⟨sk,sk',w',(let ⟨A,c,e⟩:=hrow.shape;⟨A,_,c,e⟩),h1,blk_free h1 0,(blk_cell h1 0).trans rfl,hr,(blk_cell hb 0).trans rfl,blk_free hb 0,BufW.set hb hrow (by simp;omega),?_,?_⟩
 ·refine Keep.setCell ?_ (.inr (by simp)) _
  exact(k.keep _).then kp (fun i hi hg=>h2.far i (by omega))
 ·refine Keep.setCell ?_ (.inr (by simp;omega)) _
  exact(Keep.refl _ w1).then kp (fun i hi hg=>by
   rcases hg with hg | hg
   ·exact h2.far i (by omega)
   ·intro e
    have:=hlow i e.symm
    omega)
theorem BufW.appStr{w:World}{g n:Nat}(h:BufW w g n)(t:List UInt8)(hn:n+t.length≤1099511627776):
 ∃sk sk' w',(∃A n c,sk'=.slice A n c)∧w.heap[g]? =some (.cells #[sk,.int .i64 0] 122)∧w.frozen? ⟨g,0,none⟩=false∧w.cell? ⟨g,0,none⟩=some sk∧(Builtin.append_ #[27,9] 27 #[sk,.string ⟨t.toArray⟩]).run Tryz.prog w=.ok sk' w'∧w'.cell? ⟨g,0,none⟩=some sk∧w'.frozen? ⟨g,0,none⟩=false∧BufW (w'.setCell ⟨g,0,none⟩ sk') g (n+t.length)∧Keep (fun b=>b<g) w (w'.setCell ⟨g,0,none⟩ sk'):=by
 obtain⟨i0,hi,hz,hs,hbb⟩:=info_parts info5
 obtain⟨sk,bs,h1,h2,h3⟩:=h
 have hlt:=lt_blk h1
 have hsz:(⟨t.toArray⟩:ByteArray).size=t.length:=rfl
 obtain⟨sk',w',hr,hrow,hg,_⟩:=Lib.run_append_own_string (P:=Tryz.prog) (w:=w) (g+1) 27 9 27 5 i0 Tryz.underlying27 Tryz.underlying9 hi hz hs hbb sk bs.length _ h2 ⟨t.toArray⟩ (by rw [hsz];unfold maxLen;omega) (by rw [hsz];omega) (by omega)
 have kp:Keep (fun k=>some k≠sk.ownBlock) w w':=Keep.of_grown hg (fun k hk=>hk)
 have hne:some g≠sk.ownBlock:=RowB.far h2 g (by omega)
 have hb:=kp.blk h1 hne
 have hrow':RowB w' (g+1) sk' (bs++t):=by
  unfold RowB
  rw [List.length_append,List.map_append]
  have e:Lib.strCells ⟨t.toArray⟩=t.map fun x=>Value.int .u8 (x.toNat:Int):=by simp [Lib.strCells]
  rw [e,hsz]at hrow
  exact hrow
 refine⟨sk,sk',w',(let ⟨A,c,e⟩:=hrow'.shape;⟨A,_,c,e⟩),h1,blk_free h1 0,(blk_cell h1 0).trans rfl,hr,(blk_cell hb 0).trans rfl,blk_free hb 0,BufW.set hb hrow' (by simp;omega),?_⟩
 refine Keep.setCell ?_ (.inr (by simp)) _
 exact(Keep.refl _ w).then kp (fun i hi hg=>RowB.far h2 i (by omega))
theorem wpList_append_eq2{P:Program}{w:World}{ops:Array Oper}{rest:List Oper}{o:Oper}{a:Act}{Q:Exit→Act→World→Prop}(hgd:o.guard=none)(s x:Operand)(t t':TypeId)
 (ho:o.op=.call { callee:=.builtin .append,args:=#[s,x],argTypes:=#[t,t'] }) (v u r:Value) (w':World) (hs:a.eval s=v) (hx:a.eval x=u)
 (hr:(Builtin.append_ #[t,t'] o.type #[v,u]).run P w=.ok r w') (h:wpList P ops Q rest (a.put o.dst r) w'):wpList P ops Q (o::rest) a w:=
 wpList_plain hgd fun K hK=>by
  unfold Oper.wp execOp
  simp only [ho,resolve,invoke,builtin,Sem.run_bind,Sem.run_pure,Result.andThen_ok,List.map_toArray,List.map_cons,List.map_nil,hs,hx,hr]
  exact hK _ _ h
theorem appendByte_k(w0 w:World)(g n:Nat)(h:BufW w0 g n)(k0:New w0 w)(x:Nat)(hx:x<256)(hn:n≤1099511620000):
 Calls Tryz.prog 257 #[.pointer (some ⟨g,0,none⟩),.int .u8 (x:Int)] w fun e w'=>e=.returned (.tuple #[])∧BufW w' g (n+1)∧Keep (fun b=>b<g∨w0.heap.size≤b) w w':=by
 have kA:=(Keep.refl (fun _=>True) w).alloc (.cells #[.int .u8 (x:Int)] 5)
 have hs:=bytes_at w [UInt8.ofNat x] #[.int .u8 (x:Int)] (by simp [-UInt8.toNat_ofNat',byte_nat hx]) (by simp)
 obtain⟨sk,_,w',⟨A',n',c',rfl⟩,h1,f1,c1,hr,c2,f2,hB,hK,hK2⟩:=h.app _ (k0.trans kA) hs (by simp;omega)
 have c0:w.cell? ⟨g,0,none⟩=some sk:=by
  have:=h.lt
  obtain⟨s,b,hh,_⟩:=h.new k0
  have e:=kA.blk hh trivial
  rw [h1]at e
  injection e with e
  injection e with e
  have e:s=sk:=by simp at e;exact e.symm
  subst e
  exact(blk_cell hh 0).trans rfl
 have HR:=Lib.hid hr
 have KK:Keep (fun b=>b<g∨w0.heap.size≤b) w (w'.setCell ⟨g,0,none⟩ (.slice A' n' c')):=(New.keep kA _).trans hK2
 clear hr kA hK hK2
 go_enter Tryz.func257,Tryz.ntmps257
 go_wp2_with (at_builtin;refine wpList_append_eq rfl _ _ 27 rfl _ _ _ _ rfl rfl HR.out ?_)
 refine bodyPost_end (v:=.tuple #[]) (by simp [results,Tryz.results257]) rfl ⟨rfl,hB,KK⟩
theorem appendByte_is(w:World)(g n:Nat)(h:BufW w g n)(x:Nat)(hx:x<256)(hn:n≤1099511620000):
 Calls Tryz.prog 257 #[.pointer (some ⟨g,0,none⟩),.int .u8 (x:Int)] w fun e w'=>e=.returned (.tuple #[])∧BufW w' g (n+1)∧Keep (fun b=>b<g) w w':=
 (appendByte_k w w g n h (Keep.refl _ _) x hx hn).mono fun _ _ hh=>⟨hh.1,hh.2.1,hh.2.2.mono fun _ _ hb=>.inl hb⟩
theorem append_is(w:World)(g n:Nat)(h:BufW w g n)(v:Value)(l:List UInt8)(hv:SlB w v l)(hn:n+l.length≤1099511627776):
 Calls Tryz.prog 261 #[.pointer (some ⟨g,0,none⟩),v] w fun e w'=>e=.returned (.tuple #[])∧BufW w' g (n+l.length)∧Keep (fun b=>b<g) w w':=by
 obtain⟨sk,_,w',⟨A',n',c',rfl⟩,h1,f1,c1,hr,c2,f2,hB,hK,hK2⟩:=h.app _ (Keep.refl _ _) hv hn
 have HR:=Lib.hid hr
 obtain⟨A,c,hsh,_⟩:=hv
 subst hsh
 clear hr
 go_enter Tryz.func261,Tryz.ntmps261
 go_wp2_with (at_builtin;refine wpList_append_eq rfl _ _ 27 rfl _ _ _ _ rfl rfl HR.out ?_)
 refine bodyPost_end (v:=.tuple #[]) (by simp [results,Tryz.results261]) rfl ⟨rfl,hB,hK⟩
theorem appendString_is(w:World)(g n:Nat)(h:BufW w g n)(t:List UInt8)(hn:n+t.length≤1099511627776):
 Calls Tryz.prog 307 #[.pointer (some ⟨g,0,none⟩),.string ⟨t.toArray⟩] w fun e w'=>e=.returned (.tuple #[])∧BufW w' g (n+t.length)∧Keep (fun b=>b<g) w w':=by
 obtain⟨sk,_,w',⟨A',n',c',rfl⟩,h1,f1,c1,hr,c2,f2,hB,hK⟩:=h.appStr t hn
 have HR:=Lib.hid hr
 clear hr
 go_enter Tryz.func307,Tryz.ntmps307
 go_wp2_with (at_builtin;refine wpList_append_eq2 rfl _ _ 27 9 rfl _ _ _ _ rfl rfl HR.out ?_)
 refine bodyPost_end (v:=.tuple #[]) (by simp [results,Tryz.results307]) rfl ⟨rfl,hB,hK⟩
theorem appendU16(w:World)(g n:Nat)(h:BufW w g n)(x:Int)(hx:0≤x∧x<65536)(hn:n≤1099511620000):
 Calls Tryz.prog 260 #[.pointer (some ⟨g,0,none⟩),.int .u16 x] w fun e w'=>e=.returned (.tuple #[])∧BufW w' g (n+2)∧Keep (fun b=>b<g) w w':=by
 have kA:=(Keep.refl (fun _=>True) w).alloc (.cells #[.int .u8 (x/256),.int .u8 (x % 256)] 5)
 have hs:=bytes_at w [UInt8.ofNat (x/256).toNat,UInt8.ofNat (x % 256).toNat] #[.int .u8 (x/256),.int .u8 (x % 256)] (by simp only [List.map_cons,List.map_nil,byte_in (show 0≤x/256∧x/256<256 by omega),byte_in (show 0≤x % 256∧x % 256<256 by omega)]) (by simp)
 obtain⟨sk,_,w',⟨A',n',c',rfl⟩,h1,f1,c1,hr,c2,f2,hB,hK,hK2⟩:=h.app _ kA hs (by simp;omega)
 have c0:w.cell? ⟨g,0,none⟩=some sk:=by
  have:=h.lt
  obtain⟨s,b,hh,_⟩:=h
  have e:=kA.blk hh trivial
  rw [h1]at e
  injection e with e
  injection e with e
  have e:s=sk:=by simp at e;exact e.symm
  subst e
  exact(blk_cell hh 0).trans rfl
 have HR:=Lib.hid hr
 clear hr kA hs c1 f1 h1 h
 go_enter Tryz.func260,Tryz.ntmps260
 go_wp2_with (at_builtin;refine wpList_append_eq rfl _ _ 27 rfl _ _ _ _ rfl rfl HR.out ?_)
 refine bodyPost_end (v:=.tuple #[]) (by simp [results,Tryz.results260]) rfl ⟨rfl,hB,hK⟩
theorem appendU32(w:World)(g n:Nat)(h:BufW w g n)(x:Int)(hx:0≤x∧x<4294967296)(hn:n≤1099511620000):
 Calls Tryz.prog 306 #[.pointer (some ⟨g,0,none⟩),.int .u32 x] w fun e w'=>e=.returned (.tuple #[])∧BufW w' g (n+4)∧Keep (fun b=>b<g) w w':=by
 have kA:=(Keep.refl (fun _=>True) w).alloc (.cells #[.int .u8 (x/16777216),.int .u8 (x/65536 % 256),.int .u8 (x/256 % 256),.int .u8 (x % 256)] 5)
 have hs:=bytes_at w [UInt8.ofNat (x/16777216).toNat,UInt8.ofNat (x/65536 % 256).toNat,UInt8.ofNat (x/256 % 256).toNat,UInt8.ofNat (x % 256).toNat] #[.int .u8 (x/16777216),.int .u8 (x/65536 % 256),.int .u8 (x/256 % 256),.int .u8 (x % 256)] (by simp only [List.map_cons,List.map_nil,byte_in (show 0≤x/16777216∧x/16777216<256 by omega),byte_in (show 0≤x/65536 % 256∧x/65536 % 256<256 by omega),byte_in (show 0≤x/256 % 256∧x/256 % 256<256 by omega),byte_in (show 0≤x % 256∧x % 256<256 by omega)]) (by simp)
 obtain⟨sk,_,w',⟨A',n',c',rfl⟩,h1,f1,c1,hr,c2,f2,hB,hK,hK2⟩:=h.app _ kA hs (by simp;omega)
 have c0:w.cell? ⟨g,0,none⟩=some sk:=by
  have:=h.lt
  obtain⟨s,b,hh,_⟩:=h
  have e:=kA.blk hh trivial
  rw [h1]at e
  injection e with e
  injection e with e
  have e:s=sk:=by simp at e;exact e.symm
  subst e
  exact(blk_cell hh 0).trans rfl
 have HR:=Lib.hid hr
 clear hr kA hs c1 f1 h1 h
 go_enter Tryz.func306,Tryz.ntmps306
 go_wp2_with (at_builtin;refine wpList_append_eq rfl _ _ 27 rfl _ _ _ _ rfl rfl HR.out ?_)
 refine bodyPost_end (v:=.tuple #[]) (by simp [results,Tryz.results306]) rfl ⟨rfl,hB,hK⟩
theorem appendU64(w:World)(g n:Nat)(h:BufW w g n)(x:Int)(hx:0≤x∧x<18446744073709551616)(hn:n≤1099511620000):
 Calls Tryz.prog 305 #[.pointer (some ⟨g,0,none⟩),.int .u64 x] w fun e w'=>e=.returned (.tuple #[])∧BufW w' g (n+8)∧Keep (fun b=>b<g) w w':=by
 have kA:=(Keep.refl (fun _=>True) w).alloc (.cells #[.int .u8 (x/72057594037927936),.int .u8 (x/281474976710656 % 256),.int .u8 (x/1099511627776 % 256),.int .u8 (x/4294967296 % 256),.int .u8 (x/16777216 % 256),.int .u8 (x/65536 % 256),.int .u8 (x/256 % 256),.int .u8 (x % 256)] 5)
 have hs:=bytes_at w [UInt8.ofNat (x/72057594037927936).toNat,UInt8.ofNat (x/281474976710656 % 256).toNat,UInt8.ofNat (x/1099511627776 % 256).toNat,UInt8.ofNat (x/4294967296 % 256).toNat,UInt8.ofNat (x/16777216 % 256).toNat,UInt8.ofNat (x/65536 % 256).toNat,UInt8.ofNat (x/256 % 256).toNat,UInt8.ofNat (x % 256).toNat] #[.int .u8 (x/72057594037927936),.int .u8 (x/281474976710656 % 256),.int .u8 (x/1099511627776 % 256),.int .u8 (x/4294967296 % 256),.int .u8 (x/16777216 % 256),.int .u8 (x/65536 % 256),.int .u8 (x/256 % 256),.int .u8 (x % 256)] (by simp only [List.map_cons,List.map_nil,byte_in (show 0≤x/72057594037927936∧x/72057594037927936<256 by omega),byte_in (show 0≤x/281474976710656 % 256∧x/281474976710656 % 256<256 by omega),byte_in (show 0≤x/1099511627776 % 256∧x/1099511627776 % 256<256 by omega),byte_in (show 0≤x/4294967296 % 256∧x/4294967296 % 256<256 by omega),byte_in (show 0≤x/16777216 % 256∧x/16777216 % 256<256 by omega),byte_in (show 0≤x/65536 % 256∧x/65536 % 256<256 by omega),byte_in (show 0≤x/256 % 256∧x/256 % 256<256 by omega),byte_in (show 0≤x % 256∧x % 256<256 by omega)]) (by simp)
 obtain⟨sk,_,w',⟨A',n',c',rfl⟩,h1,f1,c1,hr,c2,f2,hB,hK,hK2⟩:=h.app _ kA hs (by simp;omega)
 have c0:w.cell? ⟨g,0,none⟩=some sk:=by
  have:=h.lt
  obtain⟨s,b,hh,_⟩:=h
  have e:=kA.blk hh trivial
  rw [h1]at e
  injection e with e
  injection e with e
  have e:s=sk:=by simp at e;exact e.symm
  subst e
  exact(blk_cell hh 0).trans rfl
 have HR:=Lib.hid hr
 clear hr kA hs c1 f1 h1 h
 go_enter Tryz.func305,Tryz.ntmps305
 go_wp2_with (at_builtin;refine wpList_append_eq rfl _ _ 27 rfl _ _ _ _ rfl rfl HR.out ?_)
 refine bodyPost_end (v:=.tuple #[]) (by simp [results,Tryz.results305]) rfl ⟨rfl,hB,hK⟩
theorem writeU64(w:World)(g n:Nat)(h:BufW w g n)(x:Nat)(hx:x<18446744073709551616)(hn:n≤1099511610000):
 Calls Tryz.prog 258 #[.pointer (some ⟨g,0,none⟩),.int .u64 (x:Int)] w fun e w'=>e=.returned (.tuple #[])∧BufW w' g (n+9)∧Keep (fun b=>b<g) w w':=by
 by_cases h0:x=0
 ·subst h0
  go_enter Tryz.func258,Tryz.ntmps258
  go_wp2_with fail
  refine(appendByte_is _ g n h 68 (by decide) (by omega)).mono ?_
  rintro e w1 ⟨rfl,h1,k1⟩
  go_wp2
  refine bodyPost_ret (v:=.tuple #[]) (by simp [results,Tryz.results258]) rfl ⟨rfl,h1.mono (by omega),k1⟩
 ·by_cases h1:x<256
  ·have t0:((x:Int)==0)=false:=by simp;omega
   have t1:decide ((x:Int)<256)=true:=by simp;omega
   have hw:=byte_nat h1
   have hs:=bytes_at w [83,UInt8.ofNat x] #[.int .u8 83,.int .u8 (x:Int)] (by simp only [List.map_cons,List.map_nil,hw];rfl) (by simp)
   have hb:=h.new ((Keep.refl (fun _=>True) w).alloc (.cells #[.int .u8 83,.int .u8 (x:Int)] 5))
   clear hw
   go_enter Tryz.func258,Tryz.ntmps258
   go_wp2_with fail
   refine(append_is _ g n hb _ _ hs (by simp;omega)).mono ?_
   rintro e w1 ⟨rfl,h1,k1⟩
   go_wp2
   refine bodyPost_ret (v:=.tuple #[]) (by simp [results,Tryz.results258]) rfl ⟨rfl,h1.mono (by simp),((Keep.refl _ w).alloc _).trans k1⟩
  ·have t0:((x:Int)==0)=false:=by simp;omega
   have t1:decide ((x:Int)<256)=false:=by simp;omega
   go_enter Tryz.func258,Tryz.ntmps258
   go_wp2_with fail
   refine(appendByte_is _ g n h 128 (by decide) (by omega)).mono ?_
   rintro e w1 ⟨rfl,h1,k1⟩
   go_wp2_with fail
   refine(appendU64 _ g _ h1 _ (by first | omega | (have:=IntKind.wrap_u64 x;omega) | (have:=IntKind.wrap_u32 x;omega)) (by omega)).mono ?_
   rintro e w2 ⟨rfl,h2,k2⟩
   go_wp2
   refine bodyPost_end (v:=.tuple #[]) (by simp [results,Tryz.results258]) rfl ⟨rfl,h2.mono (by omega),k1.trans k2⟩
theorem writeU32(w:World)(g n:Nat)(h:BufW w g n)(x:Nat)(hx:x<4294967296)(hn:n≤1099511610000):
 Calls Tryz.prog 259 #[.pointer (some ⟨g,0,none⟩),.int .u32 (x:Int)] w fun e w'=>e=.returned (.tuple #[])∧BufW w' g (n+9)∧Keep (fun b=>b<g) w w':=by
 by_cases h0:x=0
 ·subst h0
  go_enter Tryz.func259,Tryz.ntmps259
  go_wp2_with fail
  refine(appendByte_is _ g n h 67 (by decide) (by omega)).mono ?_
  rintro e w1 ⟨rfl,h1,k1⟩
  go_wp2
  refine bodyPost_ret (v:=.tuple #[]) (by simp [results,Tryz.results259]) rfl ⟨rfl,h1.mono (by omega),k1⟩
 ·by_cases h1:x<256
  ·have t0:((x:Int)==0)=false:=by simp;omega
   have t1:decide ((x:Int)<256)=true:=by simp;omega
   have hw:=byte_nat h1
   have hs:=bytes_at w [82,UInt8.ofNat x] #[.int .u8 82,.int .u8 (x:Int)] (by simp only [List.map_cons,List.map_nil,hw];rfl) (by simp)
   have hb:=h.new ((Keep.refl (fun _=>True) w).alloc (.cells #[.int .u8 82,.int .u8 (x:Int)] 5))
   clear hw
   go_enter Tryz.func259,Tryz.ntmps259
   go_wp2_with fail
   refine(append_is _ g n hb _ _ hs (by simp;omega)).mono ?_
   rintro e w1 ⟨rfl,h1,k1⟩
   go_wp2
   refine bodyPost_ret (v:=.tuple #[]) (by simp [results,Tryz.results259]) rfl ⟨rfl,h1.mono (by simp),((Keep.refl _ w).alloc _).trans k1⟩
  ·have t0:((x:Int)==0)=false:=by simp;omega
   have t1:decide ((x:Int)<256)=false:=by simp;omega
   go_enter Tryz.func259,Tryz.ntmps259
   go_wp2_with fail
   refine(appendByte_is _ g n h 112 (by decide) (by omega)).mono ?_
   rintro e w1 ⟨rfl,h1,k1⟩
   go_wp2_with fail
   refine(appendU32 _ g _ h1 _ (by first | omega | (have:=IntKind.wrap_u64 x;omega) | (have:=IntKind.wrap_u32 x;omega)) (by omega)).mono ?_
   rintro e w2 ⟨rfl,h2,k2⟩
   go_wp2
   refine bodyPost_end (v:=.tuple #[]) (by simp [results,Tryz.results259]) rfl ⟨rfl,h2.mono (by omega),k1.trans k2⟩
theorem writeI64(w:World)(g n:Nat)(h:BufW w g n)(x:Int)(hx:-9223372036854775808≤x∧x<9223372036854775808)(hn:n≤1099511610000):
 Calls Tryz.prog 262 #[.pointer (some ⟨g,0,none⟩),.int .i64 x] w fun e w'=>e=.returned (.tuple #[])∧BufW w' g (n+9)∧Keep (fun b=>b<g) w w':=by
 by_cases h0:x<128∧-128≤x
 ·have t1:decide (x<128)=true:=by simp;omega
  have t2:decide (-128≤x)=true:=by simp;omega
  have hs:=bytes_at w [85,UInt8.ofNat (IntKind.u8.wrap x).toNat] #[.int .u8 85,.int .u8 (IntKind.u8.wrap x)] (by simp only [List.map_cons,List.map_nil,byte_int];rfl) (by simp)
  have hb:=h.new ((Keep.refl (fun _=>True) w).alloc (.cells #[.int .u8 85,.int .u8 (IntKind.u8.wrap x)] 5))
  rw [show IntKind.u8.wrap x=x % 256 from IntKind.wrap_u8 x]at hs hb
  go_enter Tryz.func262,Tryz.ntmps262
  go_wp2_with fail
  refine(append_is _ g n hb _ _ hs (by simp;omega)).mono ?_
  rintro e w1 ⟨rfl,h1,k1⟩
  go_wp2
  refine bodyPost_ret (v:=.tuple #[]) (by simp [results,Tryz.results262]) rfl ⟨rfl,h1.mono (by simp),((Keep.refl _ w).alloc _).trans k1⟩
 ·by_cases h1:x<128
  all_goals
   have t2:x<128→decide (-128≤x)=false:=by simp;omega
  ·have t1:decide (x<128)=true:=by simp;omega
   have t3:=t2 h1
   go_enter Tryz.func262,Tryz.ntmps262
   go_wp2_with fail
   refine(appendByte_is _ g n h 129 (by decide) (by omega)).mono ?_
   rintro e w1 ⟨rfl,h1,k1⟩
   go_wp2_with fail
   refine(appendU64 _ g _ h1 _ (by first | omega | (have:=IntKind.wrap_u64 x;omega) | (have:=IntKind.wrap_u32 x;omega)) (by omega)).mono ?_
   rintro e w2 ⟨rfl,h2,k2⟩
   go_wp2
   refine bodyPost_end (v:=.tuple #[]) (by simp [results,Tryz.results262]) rfl ⟨rfl,h2.mono (by omega),k1.trans k2⟩
  ·have t1:decide (x<128)=false:=by simp;omega
   go_enter Tryz.func262,Tryz.ntmps262
   go_wp2_with fail
   refine(appendByte_is _ g n h 129 (by decide) (by omega)).mono ?_
   rintro e w1 ⟨rfl,h1,k1⟩
   go_wp2_with fail
   refine(appendU64 _ g _ h1 _ (by first | omega | (have:=IntKind.wrap_u64 x;omega) | (have:=IntKind.wrap_u32 x;omega)) (by omega)).mono ?_
   rintro e w2 ⟨rfl,h2,k2⟩
   go_wp2
   refine bodyPost_end (v:=.tuple #[]) (by simp [results,Tryz.results262]) rfl ⟨rfl,h2.mono (by omega),k1.trans k2⟩
theorem writeI32(w:World)(g n:Nat)(h:BufW w g n)(x:Int)(hx:-2147483648≤x∧x<2147483648)(hn:n≤1099511610000):
 Calls Tryz.prog 263 #[.pointer (some ⟨g,0,none⟩),.int .i32 x] w fun e w'=>e=.returned (.tuple #[])∧BufW w' g (n+9)∧Keep (fun b=>b<g) w w':=by
 by_cases h0:x<128∧-128≤x
 ·have t1:decide (x<128)=true:=by simp;omega
  have t2:decide (-128≤x)=true:=by simp;omega
  have hs:=bytes_at w [84,UInt8.ofNat (IntKind.u8.wrap x).toNat] #[.int .u8 84,.int .u8 (IntKind.u8.wrap x)] (by simp only [List.map_cons,List.map_nil,byte_int];rfl) (by simp)
  have hb:=h.new ((Keep.refl (fun _=>True) w).alloc (.cells #[.int .u8 84,.int .u8 (IntKind.u8.wrap x)] 5))
  rw [show IntKind.u8.wrap x=x % 256 from IntKind.wrap_u8 x]at hs hb
  go_enter Tryz.func263,Tryz.ntmps263
  go_wp2_with fail
  refine(append_is _ g n hb _ _ hs (by simp;omega)).mono ?_
  rintro e w1 ⟨rfl,h1,k1⟩
  go_wp2
  refine bodyPost_ret (v:=.tuple #[]) (by simp [results,Tryz.results263]) rfl ⟨rfl,h1.mono (by simp),((Keep.refl _ w).alloc _).trans k1⟩
 ·by_cases h1:x<128
  all_goals
   have t2:x<128→decide (-128≤x)=false:=by simp;omega
  ·have t1:decide (x<128)=true:=by simp;omega
   have t3:=t2 h1
   go_enter Tryz.func263,Tryz.ntmps263
   go_wp2_with fail
   refine(appendByte_is _ g n h 113 (by decide) (by omega)).mono ?_
   rintro e w1 ⟨rfl,h1,k1⟩
   go_wp2_with fail
   refine(appendU32 _ g _ h1 _ (by first | omega | (have:=IntKind.wrap_u64 x;omega) | (have:=IntKind.wrap_u32 x;omega)) (by omega)).mono ?_
   rintro e w2 ⟨rfl,h2,k2⟩
   go_wp2
   refine bodyPost_end (v:=.tuple #[]) (by simp [results,Tryz.results263]) rfl ⟨rfl,h2.mono (by omega),k1.trans k2⟩
  ·have t1:decide (x<128)=false:=by simp;omega
   go_enter Tryz.func263,Tryz.ntmps263
   go_wp2_with fail
   refine(appendByte_is _ g n h 113 (by decide) (by omega)).mono ?_
   rintro e w1 ⟨rfl,h1,k1⟩
   go_wp2_with fail
   refine(appendU32 _ g _ h1 _ (by first | omega | (have:=IntKind.wrap_u64 x;omega) | (have:=IntKind.wrap_u32 x;omega)) (by omega)).mono ?_
   rintro e w2 ⟨rfl,h2,k2⟩
   go_wp2
   refine bodyPost_end (v:=.tuple #[]) (by simp [results,Tryz.results263]) rfl ⟨rfl,h2.mono (by omega),k1.trans k2⟩
def Vld(w:World):Prop:=∀w1,Keep (fun b=>b<w.heap.size) w w1→∀t:List UInt8,t.length≤1099511627776→Calls Tryz.prog 139 #[.string ⟨t.toArray⟩] w1 fun e w'=>e=.returned (.bool (Lib.validD t))∧New w1 w'
theorem Vld.new{w w1:World}(h:Vld w)(k:New w w1):Vld w1:=fun w2 k2=>h w2 (Keep.keep1 k k2) where
 Keep.keep1 {w w1 w2:World} (k:New w w1) (k2:Keep (fun b=>b<w1.heap.size) w1 w2):Keep (fun b=>b<w.heap.size) w w2:=
  (k.keep _).then k2 (fun i hi _=>by have:=k.size;omega)
theorem writeString_is(w:World)(VC:Vld w)(g n:Nat)(h:BufW w g n)(t:List UInt8)(ht:Lib.validD t=true)(hl:t.length<4294967295)(hn:n≤1099511600):
 Calls Tryz.prog 266 #[.pointer (some ⟨g,0,none⟩),.string ⟨t.toArray⟩] w fun e w'=>e=.returned .nilIface∧BufW w' g (n+(t.length+5))∧Keep (fun b=>b<g) w w':=by
 have hsz:(⟨t.toArray⟩:ByteArray).size=t.length:=rfl
 by_cases hb:t.length<256
 ·have t1:decide ((t.length:Int)<256)=true:=by simp;omega
  have hw:=byte_nat hb
  go_enter Tryz.func266,Tryz.ntmps266
  go_wp2_with fail
  refine(VC _ (Keep.refl _ _) t (by omega)).mono ?_
  rintro e w1 ⟨rfl,k1⟩
  rw [ht]
  have hs:=bytes_at w1 [161,UInt8.ofNat t.length] #[.int .u8 161,.int .u8 (t.length:Int)] (by simp only [List.map_cons,List.map_nil,hw];rfl) (by simp)
  have h1:=(h.new k1).new ((Keep.refl (fun _=>True) w1).alloc (.cells #[.int .u8 161,.int .u8 (t.length:Int)] 5))
  go_wp2_with fail
  refine(append_is _ g n h1 _ _ hs (by simp;omega)).mono ?_
  rintro e w2 ⟨rfl,h2,k2⟩
  go_wp2_with fail
  refine(appendString_is _ g _ h2 t (by simp;omega)).mono ?_
  rintro e w3 ⟨rfl,h3,k3⟩
  go_wp2
  go_ret
  exact⟨rfl,h3.mono (by simp;omega),((k1.keep _).trans (((Keep.refl _ w1).alloc _).trans k2)).trans k3⟩
 ·have t1:decide ((t.length:Int)<256)=false:=by simp;omega
  have t2:decide ((t.length:Int)<4294967295)=true:=by simp;omega
  ·go_enter Tryz.func266,Tryz.ntmps266
   go_wp2_with fail
   refine(VC _ (Keep.refl _ _) t (by omega)).mono ?_
   rintro e w1 ⟨rfl,k1⟩
   rw [ht]
   go_wp2_with fail
   refine(appendByte_is _ g n (h.new k1) 177 (by decide) (by omega)).mono ?_
   rintro e w2 ⟨rfl,h2,k2⟩
   go_wp2_with fail
   refine(appendU32 _ g _ h2 _ (by omega) (by omega)).mono ?_
   rintro e w3 ⟨rfl,h3,k3⟩
   go_wp2_with fail
   refine(appendString_is _ g _ h3 t (by omega)).mono ?_
   rintro e w4 ⟨rfl,h4,k4⟩
   go_wp2
   go_ret
   exact⟨rfl,h4.mono (by omega),(((k1.keep _).trans k2).trans k3).trans k4⟩
theorem writeTime_is(w:World)(g n:Nat)(h:BufW w g n)(ms:Int)(h1:-9223372036854775808≤ms)(h2:ms≤9223372036854775807)(hn:n≤1099511600):
 Calls Tryz.prog 269 #[.pointer (some ⟨g,0,none⟩),timeV ms] w fun e w'=>e=.returned (.tuple #[])∧BufW w' g (n+9)∧Keep (fun b=>b<g) w w':=by
 go_enter Tryz.func269,Tryz.ntmps269
 simp only [timeV]
 go_wp2_with fail
 have kA:=(Keep.refl (fun _=>True) w).alloc (.cells #[.int .i64 (ms/1000),.int .i64 (ms % 1000*1000000)] 228)
 refine(appendByte_k w _ g n h kA 131 (by decide) (by omega)).mono ?_
 rintro e w2 ⟨rfl,b2,k2⟩
 have hlt:=h.lt
 have hb:=k2.blk (blk_new w _) (.inr (Nat.le_refl _))
 have c0:=(blk_cell hb 0).trans rfl
 have c1:=(blk_cell hb 1).trans rfl
 clear hb
 go_wp2_with fail
 refine(unixMilli_is ms _ h1 h2).mono ?_
 rintro e w3 ⟨rfl,k3⟩
 go_wp2_with fail
 refine(appendU64 _ g _ (b2.new k3) _ (by have:=IntKind.wrap_u64 ms;omega) (by omega)).mono ?_
 rintro e w4 ⟨rfl,b4,k4⟩
 go_wp2
 refine bodyPost_end (v:=.tuple #[]) (by simp [results,Tryz.results269]) rfl ⟨rfl,b4.mono (by omega),?_⟩
 exact(((New.keep kA _).then k2 (fun i hi hg=>.inl hg)).trans (k3.keep _)).trans k4
theorem bytes_is(w:World)(g n:Nat)(h:BufW w g n)(hn:n≤1099511600000):
 Calls Tryz.prog 27 #[.pointer (some ⟨g,0,none⟩)] w fun e w'=>∃v l,e=.returned v∧New w w'∧SlB w' v l∧l.length≤n:=by
 obtain⟨sk,bs,h1,h2,h3⟩:=h
 have hc:=(blk_cell h1 0).trans rfl
 have hd:=(blk_cell h1 1).trans rfl
 have hf:=blk_free h1 0
 have hg:=blk_free h1 1
 have ho:=h2.out.here
 obtain⟨A,c,hs,hc1,hc2,hA⟩:=ho
 subst hs
 have fin:∀A' c' n',(n'=bs.length)→(bs≠[]→A'=A∧c'=c)→n'≤c'→c'≤9223372036854775807→∀w',New w w'→SlB w' (.slice A' n' c') bs:=fun A' c' n' e1 hh e2 e3 w' k=>by
  subst e1
  exact⟨A',c',rfl,e2,e3,fun hne=>by
   obtain⟨rfl,rfl⟩:=hh hne
   obtain⟨d,i,e,hb⟩:=hA hne
   obtain⟨cells,hd2,hc⟩:=hb
   exact⟨d,i,e,cells,k.blk hd2 trivial,hc⟩⟩
 have F:=Lib.hid fin
 clear fin h1 h2
 by_cases hne:bs=[]
 ·subst hne
  by_cases hc0:c=0
  ·subst hc0
   go_enter Tryz.func27,Tryz.ntmps27
   go_wp2
   go_quiet (fail)
   go_wp2
   go_ret
   exact⟨_,_,rfl,(Keep.refl _ w).drewN _,F.out _ _ _ rfl (fun h=>absurd rfl h) (Nat.le_refl _) (by omega) _ ((Keep.refl _ w).drewN _),by simp⟩
  ·go_enter Tryz.func27,Tryz.ntmps27
   go_wp2
   go_quiet (fail)
   go_wp2
   go_ret
   exact⟨_,_,rfl,(Keep.refl _ w).drewN _,F.out _ _ _ rfl (fun h=>absurd rfl h) (by omega) (by omega) _ ((Keep.refl _ w).drewN _),by simp⟩
 ·obtain⟨d,i,rfl,_⟩:=hA hne
  have hpos:=List.length_pos_iff.2 hne
  have hc0:¬c=0:=by omega
  go_enter Tryz.func27,Tryz.ntmps27
  go_wp2
  go_quiet (fail)
  go_wp2
  go_ret
  exact⟨_,_,rfl,(Keep.refl _ w).drewN _,F.out _ _ _ rfl (fun _=>⟨rfl,rfl⟩) (by omega) (by omega) _ ((Keep.refl _ w).drewN _),h3⟩
theorem marsh_bool(w:World)(g:Nat)(h:BufW w g 0)(b:Bool):
 Calls Tryz.prog 244 #[.pointer (some ⟨g,0,none⟩),.iface 4 (.bool b)] w fun e w'=>e=.returned .nilIface∧BufW w' g 200000∧Keep (fun b=>b<g) w w':=by
 cases b
 all_goals
  go_enter Tryz.func244,Tryz.ntmps244
  go_wp2_with fail
  refine(appendByte_is _ g 0 h _ (by decide) (by omega)).mono ?_
  rintro e w1 ⟨rfl,h1,k1⟩
  go_wp2
  go_ret
  exact⟨rfl,h1.mono (by omega),k1⟩
theorem marsh_u8(w:World)(g:Nat)(h:BufW w g 0)(n:Nat)(hn:n<256):
 Calls Tryz.prog 244 #[.pointer (some ⟨g,0,none⟩),.iface 5 (.int .u8 n)] w fun e w'=>e=.returned .nilIface∧BufW w' g 200000∧Keep (fun b=>b<g) w w':=by
 have hw:=byte_nat hn
 have hs:=bytes_at w [80,UInt8.ofNat n] #[.int .u8 80,.int .u8 (n:Int)] (by simp only [List.map_cons,List.map_nil,hw];rfl) (by simp)
 have hb:=h.new ((Keep.refl (fun _=>True) w).alloc (.cells #[.int .u8 80,.int .u8 (n:Int)] 5))
 clear hw
 go_enter Tryz.func244,Tryz.ntmps244
 go_wp2_with fail
 refine(append_is _ g 0 hb _ _ hs (by simp)).mono ?_
 rintro e w1 ⟨rfl,h1,k1⟩
 go_wp2
 go_ret
 exact⟨rfl,h1.mono (by simp),((Keep.refl _ w).alloc _).trans k1⟩
theorem marsh_i8(w:World)(g:Nat)(h:BufW w g 0)(x:Int):
 Calls Tryz.prog 244 #[.pointer (some ⟨g,0,none⟩),.iface 191 (.int .i8 x)] w fun e w'=>e=.returned .nilIface∧BufW w' g 200000∧Keep (fun b=>b<g) w w':=by
 have hs:=bytes_at w [81,UInt8.ofNat (IntKind.u8.wrap x).toNat] #[.int .u8 81,.int .u8 (IntKind.u8.wrap x)] (by simp only [List.map_cons,List.map_nil,byte_int];rfl) (by simp)
 have hb:=h.new ((Keep.refl (fun _=>True) w).alloc (.cells #[.int .u8 81,.int .u8 (IntKind.u8.wrap x)] 5))
 rw [show IntKind.u8.wrap x=x % 256 from IntKind.wrap_u8 x]at hs hb
 go_enter Tryz.func244,Tryz.ntmps244
 go_wp2_with fail
 refine(append_is _ g 0 hb _ _ hs (by simp)).mono ?_
 rintro e w1 ⟨rfl,h1,k1⟩
 go_wp2
 go_ret
 exact⟨rfl,h1.mono (by simp),((Keep.refl _ w).alloc _).trans k1⟩
theorem marsh_u16(w:World)(g:Nat)(h:BufW w g 0)(x:Int)(hx:0≤x∧x<65536):
 Calls Tryz.prog 244 #[.pointer (some ⟨g,0,none⟩),.iface 117 (.int .u16 x)] w fun e w'=>e=.returned .nilIface∧BufW w' g 200000∧Keep (fun b=>b<g) w w':=by
 go_enter Tryz.func244,Tryz.ntmps244
 go_wp2_with fail
 refine(appendByte_is _ g 0 h 96 (by decide) (by omega)).mono ?_
 rintro e w1 ⟨rfl,h1,k1⟩
 go_wp2_with fail
 refine(appendU16 _ g _ h1 _ hx (by omega)).mono ?_
 rintro e w2 ⟨rfl,h2,k2⟩
 go_wp2
 go_ret
 exact⟨rfl,h2.mono (by omega),k1.trans k2⟩
theorem marsh_i16(w:World)(g:Nat)(h:BufW w g 0)(x:Int):
 Calls Tryz.prog 244 #[.pointer (some ⟨g,0,none⟩),.iface 195 (.int .i16 x)] w fun e w'=>e=.returned .nilIface∧BufW w' g 200000∧Keep (fun b=>b<g) w w':=by
 go_enter Tryz.func244,Tryz.ntmps244
 go_wp2_with fail
 refine(appendByte_is _ g 0 h 97 (by decide) (by omega)).mono ?_
 rintro e w1 ⟨rfl,h1,k1⟩
 go_wp2_with fail
 refine(appendU16 _ g _ h1 _ (by have:=IntKind.wrap_u16 x;omega) (by omega)).mono ?_
 rintro e w2 ⟨rfl,h2,k2⟩
 go_wp2
 go_ret
 exact⟨rfl,h2.mono (by omega),k1.trans k2⟩
theorem marsh_u32(w:World)(g:Nat)(h:BufW w g 0)(x:Nat)(hx:x<4294967296):
 Calls Tryz.prog 244 #[.pointer (some ⟨g,0,none⟩),.iface 22 (.int .u32 x)] w fun e w'=>e=.returned .nilIface∧BufW w' g 200000∧Keep (fun b=>b<g) w w':=by
 go_enter Tryz.func244,Tryz.ntmps244
 go_wp2_with fail
 refine(writeU32 _ g 0 h x hx (by omega)).mono ?_
 rintro e w1 ⟨rfl,h1,k1⟩
 go_wp2
 go_ret
 exact⟨rfl,h1.mono (by omega),k1⟩
theorem marsh_u64(w:World)(g:Nat)(h:BufW w g 0)(x:Nat)(hx:x<18446744073709551616):
 Calls Tryz.prog 244 #[.pointer (some ⟨g,0,none⟩),.iface 26 (.int .u64 x)] w fun e w'=>e=.returned .nilIface∧BufW w' g 200000∧Keep (fun b=>b<g) w w':=by
 go_enter Tryz.func244,Tryz.ntmps244
 go_wp2_with fail
 refine(writeU64 _ g 0 h x hx (by omega)).mono ?_
 rintro e w1 ⟨rfl,h1,k1⟩
 go_wp2
 go_ret
 exact⟨rfl,h1.mono (by omega),k1⟩
theorem marsh_i32(w:World)(g:Nat)(h:BufW w g 0)(x:Int)(hx:-2147483648≤x∧x<2147483648):
 Calls Tryz.prog 244 #[.pointer (some ⟨g,0,none⟩),.iface 21 (.int .i32 x)] w fun e w'=>e=.returned .nilIface∧BufW w' g 200000∧Keep (fun b=>b<g) w w':=by
 go_enter Tryz.func244,Tryz.ntmps244
 go_wp2_with fail
 refine(writeI32 _ g 0 h x hx (by omega)).mono ?_
 rintro e w1 ⟨rfl,h1,k1⟩
 go_wp2
 go_ret
 exact⟨rfl,h1.mono (by omega),k1⟩
theorem marsh_i64(w:World)(g:Nat)(h:BufW w g 0)(x:Int)(hx:-9223372036854775808≤x∧x<9223372036854775808):
 Calls Tryz.prog 244 #[.pointer (some ⟨g,0,none⟩),.iface 2 (.int .i64 x)] w fun e w'=>e=.returned .nilIface∧BufW w' g 200000∧Keep (fun b=>b<g) w w':=by
 go_enter Tryz.func244,Tryz.ntmps244
 go_wp2_with fail
 refine(writeI64 _ g 0 h x hx (by omega)).mono ?_
 rintro e w1 ⟨rfl,h1,k1⟩
 go_wp2
 go_ret
 exact⟨rfl,h1.mono (by omega),k1⟩
theorem marsh_str(w:World)(g:Nat)(h:BufW w g 0)(VC:Vld w)(t:List UInt8)(ht:Lib.validD t=true)(hl:t.length≤131072):
 Calls Tryz.prog 244 #[.pointer (some ⟨g,0,none⟩),.iface 9 (.string ⟨t.toArray⟩)] w fun e w'=>e=.returned .nilIface∧BufW w' g 200000∧Keep (fun b=>b<g) w w':=by
 go_enter Tryz.func244,Tryz.ntmps244
 go_wp2_with fail
 refine(writeString_is _ VC g 0 h t ht (by omega) (by omega)).mono ?_
 rintro e w1 ⟨rfl,h1,k1⟩
 go_wp2
 go_ret
 exact⟨rfl,h1.mono (by omega),k1⟩
theorem marsh_time(w:World)(g:Nat)(h:BufW w g 0)(ms:Int)(h1:-9223372036854775808≤ms)(h2:ms≤9223372036854775807):
 Calls Tryz.prog 244 #[.pointer (some ⟨g,0,none⟩),.iface 228 (timeV ms)] w fun e w'=>e=.returned .nilIface∧BufW w' g 200000∧Keep (fun b=>b<g) w w':=by
 have hc:=fun w (h:BufW w g 0)=>writeTime_is w g 0 h ms h1 h2 (by omega)
 simp only [timeV]at hc ⊢
 go_enter Tryz.func244,Tryz.ntmps244
 go_wp2_with fail
 refine(hc _ (h.new ((Keep.refl (fun _=>True) w).alloc _))).mono ?_
 rintro e w1 ⟨rfl,h1,k1⟩
 go_wp2
 go_ret
 exact⟨rfl,h1.mono (by omega),((Keep.refl _ w).alloc _).trans k1⟩
end Go.Proofs.YtfoegolfadhmjaaGreatDoor
namespace Go.Proofs.YtfoegolfadhmjaaGreatDoor
open Go.RowKit Go.WideShapes
def SlC(w:World)(v:Value)(l:List UInt8):Prop:=
 ∃A c,v=.slice A l.length c∧l.length≤c∧c≤9223372036854775807∧(l≠[]→∃d i,A=some ⟨d,i,none⟩∧∀j (hj:j<l.length),w.cell? ⟨d,i+j,none⟩=some (.int .u8 (l[j].toNat:Int)))
theorem SlB.toC{w:World}{v:Value}{l:List UInt8}(h:SlB w v l):SlC w v l:=by
 obtain⟨A,c,e,h1,h2,h3⟩:=h
 exact⟨A,c,e,h1,h2,fun hne=>by
  obtain⟨d,i,e,hb⟩:=h3 hne
  exact⟨d,i,e,fun j hj=>hb.cell j hj⟩⟩
theorem SlC.keep{w w':World}{v:Value}{l:List UInt8}(h:SlC w v l)(k:New w w'):SlC w' v l:=by
 obtain⟨A,c,e,h1,h2,h3⟩:=h
 exact⟨A,c,e,h1,h2,fun hne=>by
  obtain⟨d,i,e,hb⟩:=h3 hne
  exact⟨d,i,e,fun j hj=>k.cell (hb j hj) trivial⟩⟩
theorem RowB.appC{w:World}{base:Nat}{sk:Value}{bs:List UInt8}(h:RowB w base sk bs){v:Value}{l:List UInt8}(hv:SlC w v l)(hn:bs.length+l.length≤1099511627776)(hbase:base≤w.heap.size):
 ∃sk' w',(Builtin.append_ #[27,27] 27 #[sk,v]).run Tryz.prog w=.ok sk' w'∧RowB w' base sk' (bs++l)∧Keep (fun k=>some k≠sk.ownBlock) w w'∧(sk'.ownBlock=sk.ownBlock∨sk'.ownBlock=some w.heap.size):=by
 obtain⟨i0,hi,hz,hs,hb⟩:=info_parts info5
 obtain⟨A,c,rfl,hl1,hc,hA⟩:=hv
 cases A with
 | some ad=>
   obtain⟨v',w',hr,h2,h3,_,h5⟩:=run_append_own_at (P:=Tryz.prog) (w:=w) base 27 27 5 i0 _ 1 1 Tryz.underlying27 hi hz hs hb rfl (by omega) sk bs.length _ h ad l.length c (l.map fun x=>Value.int .u8 (x.toNat:Int)) (by simp) (fun j u hj=>by
    have hjl:j<l.length:=by
     rcases Nat.lt_or_ge j l.length with h | h
     ·exact h
     ·simp [List.getElem?_eq_none (show(l.map fun x=>Value.int .u8 (x.toNat:Int)).length≤j by simpa using h)]at hj
    obtain⟨d,i,he,hd⟩:=hA (fun e=>by rw [e]at hjl;simp at hjl)
    injection he with he
    subst he
    have hplain:(⟨d,i,none⟩:Addr).add j=⟨d,i+j,none⟩:=by unfold Addr.add;split<;>simp_all
    rw [hplain,hd j hjl]
    simpa [hjl]using hj) (by intro u hu;obtain⟨x,_,rfl⟩:=List.mem_map.1 hu;rfl) (by unfold maxLen;omega) (by omega) hbase
   exact⟨v',w',hr,by unfold RowB;rw [List.length_append,List.map_append];exact h2,Keep.of_grown h3 (fun k hk=>hk),h5⟩
 | none=>
   have hl0:l=[]:=by
    rcases l with _ | ⟨x,l⟩
    ·rfl
    ·obtain⟨d,i,he,_⟩:=hA (by simp)
     cases he
   subst hl0
   obtain⟨A',c',rfl⟩:=h.shape
   refine⟨_,w,?_,by rw [List.append_nil];exact h,Keep.refl _ _,.inl rfl⟩
   have hle:bs.length≤c':=by
    rcases h.2 with⟨e,h0⟩ | ⟨g,cap,cur,e,hg,hb,hn,_⟩
    ·injection e with _ _ e;omega
    ·injection e with _ _ e;omega
   exact run_append_nothing w 27 27 27 5 i0 Tryz.underlying27 hi A' bs.length c' hle _ (Src.ofNil w Tryz.underlying27 c)
theorem BufW.appC{w:World}{g n:Nat}(h:BufW w g n)(w1:World)(k:New w w1){v:Value}{l:List UInt8}(hv:SlC w1 v l)(hn:n+l.length≤1099511627776):
 ∃sk sk' w',(∃A n c,sk'=.slice A n c)∧w1.heap[g]? =some (.cells #[sk,.int .i64 0] 122)∧w1.frozen? ⟨g,0,none⟩=false∧w1.cell? ⟨g,0,none⟩=some sk∧(Builtin.append_ #[27,27] 27 #[sk,v]).run Tryz.prog w1=.ok sk' w'∧w'.cell? ⟨g,0,none⟩=some sk∧w'.frozen? ⟨g,0,none⟩=false∧BufW (w'.setCell ⟨g,0,none⟩ sk') g (n+l.length)∧Keep (fun b=>b<g) w (w'.setCell ⟨g,0,none⟩ sk')∧Keep (fun b=>b<g∨w.heap.size≤b) w1 (w'.setCell ⟨g,0,none⟩ sk'):=by
 obtain⟨sk,bs,h0,h2,h3⟩:=h
 have hlow:∀b,sk.ownBlock=some b→b<w.heap.size:=fun b hb=>h2.lt hb
 have hg0:=lt_blk h0
 have h1:=k.blk h0 trivial
 replace h2:=h2.keep k (fun _ _=>trivial)
 have hlt:=lt_blk h1
 obtain⟨sk',w',hr,hrow,kp,_⟩:=h2.appC hv (by omega) (by omega)
 have hne:some g≠sk.ownBlock:=h2.far g (by omega)
 have hb:=kp.blk h1 hne
 refine⟨sk,sk',w',(let ⟨A,c,e⟩:=hrow.shape;⟨A,_,c,e⟩),h1,blk_free h1 0,(blk_cell h1 0).trans rfl,hr,(blk_cell hb 0).trans rfl,blk_free hb 0,BufW.set hb hrow (by simp;omega),?_,?_⟩
 ·refine Keep.setCell ?_ (.inr (by simp)) _
  exact(k.keep _).then kp (fun i hi hg=>h2.far i (by omega))
 ·refine Keep.setCell ?_ (.inr (by simp;omega)) _
  exact(Keep.refl _ w1).then kp (fun i hi hg=>by
   rcases hg with hg | hg
   ·exact h2.far i (by omega)
   ·intro e
    have:=hlow i e.symm
    omega)
theorem append_k(w0 w:World)(k0:New w0 w)(g n:Nat)(h:BufW w0 g n)(v:Value)(l:List UInt8)(hv:SlC w v l)(hn:n+l.length≤1099511627776):
 Calls Tryz.prog 261 #[.pointer (some ⟨g,0,none⟩),v] w fun e w'=>e=.returned (.tuple #[])∧BufW w' g (n+l.length)∧Keep (fun b=>b<g) w0 w':=by
 obtain⟨sk,_,w',⟨A',n',c',rfl⟩,h1,f1,c1,hr,c2,f2,hB,hK,hK2⟩:=h.appC _ k0 hv hn
 have HR:=Lib.hid hr
 obtain⟨A,c,hsh,_⟩:=hv
 subst hsh
 clear hr
 go_enter Tryz.func261,Tryz.ntmps261
 go_wp2_with (at_builtin;refine wpList_append_eq rfl _ _ 27 rfl _ _ _ _ rfl rfl HR.out ?_)
 refine bodyPost_end (v:=.tuple #[]) (by simp [results,Tryz.results261]) rfl ⟨rfl,hB,hK⟩
theorem uuidMarshal(w:World)(g:Nat)(h:BufW w g 0)(t:List UInt8)(ht:t.length=16):
 Calls Tryz.prog 369 #[uuidV t,.pointer (some ⟨g,0,none⟩)] w fun e w'=>e=.returned .nilIface∧BufW w' g 200000∧Keep (fun b=>b<g) w w':=by
 obtain⟨b0,b1,b2,b3,b4,b5,b6,b7,b8,b9,b10,b11,b12,b13,b14,b15,rfl⟩:=sixteen_of ht
 simp only [uuidV,List.map_cons,List.map_nil]
 have kA:=(Keep.refl (fun _=>True) w).alloc (.cells #[.int .u8 (b0.toNat:Int),.int .u8 (b1.toNat:Int),.int .u8 (b2.toNat:Int),.int .u8 (b3.toNat:Int),.int .u8 (b4.toNat:Int),.int .u8 (b5.toNat:Int),.int .u8 (b6.toNat:Int),.int .u8 (b7.toNat:Int),.int .u8 (b8.toNat:Int),.int .u8 (b9.toNat:Int),.int .u8 (b10.toNat:Int),.int .u8 (b11.toNat:Int),.int .u8 (b12.toNat:Int),.int .u8 (b13.toNat:Int),.int .u8 (b14.toNat:Int),.int .u8 (b15.toNat:Int)] 309)
 have hgl:=h.lt
 go_enter Tryz.func369,Tryz.ntmps369
 go_wp2_with fail
 refine(appendByte_k w _ g 0 h kA 152 (by decide) (by omega)).mono ?_
 rintro e w1 ⟨rfl,h1,k1⟩
 have hb:=k1.blk (blk_new w (.cells #[.int .u8 (b0.toNat:Int),.int .u8 (b1.toNat:Int),.int .u8 (b2.toNat:Int),.int .u8 (b3.toNat:Int),.int .u8 (b4.toNat:Int),.int .u8 (b5.toNat:Int),.int .u8 (b6.toNat:Int),.int .u8 (b7.toNat:Int),.int .u8 (b8.toNat:Int),.int .u8 (b9.toNat:Int),.int .u8 (b10.toNat:Int),.int .u8 (b11.toNat:Int),.int .u8 (b12.toNat:Int),.int .u8 (b13.toNat:Int),.int .u8 (b14.toNat:Int),.int .u8 (b15.toNat:Int)] 309)) (.inr (Nat.le_refl _))
 have hsl:SlC w1 (.slice (some ⟨w.heap.size,0,none⟩) 16 16) [b0,b1,b2,b3,b4,b5,b6,b7,b8,b9,b10,b11,b12,b13,b14,b15]:=⟨_,16,rfl,Nat.le_refl _,by omega,fun _=>⟨w.heap.size,0,rfl,fun j hj=>by
  rw [blk_cell hb,Nat.zero_add]
  match j,hj with
  | 0,_=>rfl
  | 1,_=>rfl
  | 2,_=>rfl
  | 3,_=>rfl
  | 4,_=>rfl
  | 5,_=>rfl
  | 6,_=>rfl
  | 7,_=>rfl
  | 8,_=>rfl
  | 9,_=>rfl
  | 10,_=>rfl
  | 11,_=>rfl
  | 12,_=>rfl
  | 13,_=>rfl
  | 14,_=>rfl
  | 15,_=>rfl
  | j+16,hj=>exact absurd hj (by simp)⟩⟩
 go_wp2_with fail
 refine(append_k w1 w1 (Keep.refl _ _) g 1 h1 _ _ hsl (by simp)).mono ?_
 rintro e w2 ⟨rfl,h2,k2⟩
 go_wp2
 go_ret
 exact⟨rfl,h2.mono (by simp),((New.keep kA _).then k1 (fun i hi hg=>.inl hg)).trans k2⟩
theorem ti309(w:World)(v:Value):(Instr.typeAssert (.iface 309 v) 20 472 true).run Tryz.prog w=.ok (.tuple #[.iface 309 v,.bool true]) w:=by kernel_rfl
attribute [local go_sem] ti309
theorem marsh_uuid(w:World)(g:Nat)(h:BufW w g 0)(t:List UInt8)(ht:t.length=16):
 Calls Tryz.prog 244 #[.pointer (some ⟨g,0,none⟩),.iface 309 (uuidV t)] w fun e w'=>e=.returned .nilIface∧BufW w' g 200000∧Keep (fun b=>b<g) w w':=by
 have hc:=Lib.hid (uuidMarshal w g h t ht)
 obtain⟨cs,hcs⟩:∃cs,uuidV t=.agg cs:=⟨_,rfl⟩
 rw [hcs]at hc ⊢
 clear hcs
 go_enter Tryz.func244,Tryz.ntmps244
 go_wp2_with fail
 refine hc.out.mono ?_
 rintro e w1 ⟨rfl,h1,k1⟩
 go_wp2
 go_ret
 exact⟨rfl,h1,k1⟩
end Go.Proofs.YtfoegolfadhmjaaGreatDoor
namespace Go.Proofs.YtfoegolfadhmjaaGreatDoor
open Go.RowKit Go.WideShapes
theorem flat2_append(a b:List (V×V)):flat2 (a++b)=flat2 a++flat2 b:=by
 induction a with
 | nil=>rfl
 | cons q a ih=>simp [flat2,ih]
def FM(w:World)(fs:List (V×V))(s:Value):Prop:=∃cells,SlG 81 12 w s fs.length cells∧Mem w (flat2 fs) cells
theorem FM.keep{w w':World}{fs:List (V×V)}{s:Value}(h:FM w fs s)(k:New w w'):FM w' fs s:=by
 obtain⟨cells,h1,h2⟩:=h
 exact⟨cells,h1.keep k,h2.keep k⟩
theorem SlG.keepN{T T':TypeId}{sz:Nat}{w w':World}{f:Nat}{cs:Array Value}(hf:w.heap[f]? =some (.cells cs T (0,0)))(hT:T≠T')(k:Keep (fun b=>b≠f) w w'){s:Value}{n:Nat}{cells:List Value}(h:SlG T' sz w s n cells):SlG T' sz w' s n cells:=by
 obtain⟨A,c,hs,h1,h2,h3,h4⟩:=h
 refine⟨A,c,hs,h1,h2,h3,fun hn=>?_⟩
 obtain⟨d,i,cs',hA,hd,hc⟩:=h4 hn
 refine⟨d,i,cs',hA,k.blk hd ?_,hc⟩
 rintro rfl
 rw [hd]at hf
 injection hf with hf
 injection hf with _ hf
 exact hT hf.symm
theorem FM.keepN{w w':World}{f:Nat}{cs:Array Value}{T:TypeId}(hf:w.heap[f]? =some (.cells cs T (0,0)))(hT:cs.size<6)(hT2:T≠81)(k:Keep (fun b=>b≠f) w w'){fs:List (V×V)}{s:Value}(h:FM w fs s):FM w' fs s:=by
 obtain⟨cells,h1,h2⟩:=h
 exact⟨cells,h1.keepN hf hT2 k,h2.keepN hf hT k⟩
theorem FM.shape{w:World}{fs:List (V×V)}{s:Value}(h:FM w fs s):∃A c,s=.slice A fs.length c∧fs.length≤c∧c≤maxLen:=by
 obtain⟨cells,h1,_⟩:=h
 exact h1.shape
theorem FM.at{w:World}{fs:List (V×V)}{A:Option Addr}{n c:Nat}(h:FM w fs (.slice A n c))(hne:fs≠[]):∃d i,A=some ⟨d,i,none⟩∧n=fs.length∧n≤c∧c≤maxLen∧∀j (hj:j<fs.length),∃a0 a1 a2 a3 a4 a5 b0 b1 b2 b3 b4 b5,
 VM w fs[j].1 (.agg #[a0,a1,a2,a3,a4,a5])∧VM w fs[j].2 (.agg #[b0,b1,b2,b3,b4,b5])∧
 w.cell? ⟨d,i+j*12,none⟩=some a0∧w.cell? ⟨d,i+j*12+1,none⟩=some a1∧w.cell? ⟨d,i+j*12+2,none⟩=some a2∧w.cell? ⟨d,i+j*12+3,none⟩=some a3∧w.cell? ⟨d,i+j*12+4,none⟩=some a4∧w.cell? ⟨d,i+j*12+5,none⟩=some a5∧
 w.cell? ⟨d,i+j*12+6,none⟩=some b0∧w.cell? ⟨d,i+j*12+7,none⟩=some b1∧w.cell? ⟨d,i+j*12+8,none⟩=some b2∧w.cell? ⟨d,i+j*12+9,none⟩=some b3∧w.cell? ⟨d,i+j*12+10,none⟩=some b4∧w.cell? ⟨d,i+j*12+11,none⟩=some b5:=by
 obtain⟨cells,h1,h2⟩:=h
 have hn0:fs.length≠0:=by simpa using hne
 obtain⟨d,i,hA,hm,hc1,hc2,hat⟩:=h1.at hn0
 refine⟨d,i,hA,hm,by omega,hc2,fun j hj=>?_⟩
 obtain⟨l1,l2,q1,q2⟩:=flat2_get fs j hj
 obtain⟨a0,a1,a2,a3,a4,a5,v1,e0,e1,e2,e3,e4,e5⟩:=h2.at (2*j) l1
 obtain⟨b0,b1,b2,b3,b4,b5,v2,g0,g1,g2,g3,g4,g5⟩:=h2.at (2*j+1) l2
 rw [q1]at v1
 rw [q2]at v2
 have get:∀q a,cells[q]? =some a→j*12≤q→q<j*12+12→w.cell? ⟨d,i+j*12+(q-j*12),none⟩=some a:=fun q a ha h3 h4=>by
  rw [show i+j*12+(q-j*12)=i+q by omega]
  exact hat q a (by omega) ha
 have z:∀q,2*j*6+q-j*12=q:=by intro q;omega
 have z':∀q,(2*j+1)*6+q-j*12=6+q:=by intro q;omega
 refine⟨a0,a1,a2,a3,a4,a5,b0,b1,b2,b3,b4,b5,v1,v2,?_,?_,?_,?_,?_,?_,?_,?_,?_,?_,?_,?_⟩
 ·have:=get _ _ e0 (by omega) (by omega);rwa [show 2*j*6-j*12=0 by omega]at this
 ·have:=get _ _ e1 (by omega) (by omega);rwa [z]at this
 ·have:=get _ _ e2 (by omega) (by omega);rwa [z]at this
 ·have:=get _ _ e3 (by omega) (by omega);rwa [z]at this
 ·have:=get _ _ e4 (by omega) (by omega);rwa [z]at this
 ·have:=get _ _ e5 (by omega) (by omega);rwa [z]at this
 ·have:=get _ _ g0 (by omega) (by omega);rwa [show(2*j+1)*6-j*12=6 by omega]at this
 ·have:=get _ _ g1 (by omega) (by omega);rwa [z']at this
 ·have:=get _ _ g2 (by omega) (by omega);rwa [z']at this
 ·have:=get _ _ g3 (by omega) (by omega);rwa [z']at this
 ·have:=get _ _ g4 (by omega) (by omega);rwa [z']at this
 ·have:=get _ _ g5 (by omega) (by omega);rwa [z']at this
inductive Pcs(w:World):List (UInt8×List UInt8)→List Value→Prop where
 | nil:Pcs w [] []
 | cons {c:UInt8} {d:List UInt8} {s:Value} {ps:List (UInt8×List UInt8)} {cells:List Value} (hd:SlC w s d) (hs:Pcs w ps cells):Pcs w ((c,d)::ps) (.int .i64 (c.toNat:Int)::s::cells)
theorem Pcs.len{w:World}{ps:List (UInt8×List UInt8)}{cells:List Value}(h:Pcs w ps cells):cells.length=ps.length*2:=by
 induction h with
 | nil=>rfl
 | cons _ _ ih=>simp only [List.length_cons,ih];omega
theorem pieceCells:CellsOf 2 Pcs where
 nil _:=.nil
 len h:=h.len
 one h:=by
  induction h with
  | nil=>intro u hu;simp at hu
  | cons hd hs ih=>
    obtain⟨A,c,rfl,_⟩:=hd
    intro u hu
    rcases List.mem_cons.1 hu with rfl | hu
    ·rfl
    ·rcases List.mem_cons.1 hu with rfl | hu
     ·rfl
     ·exact ih u hu
 app h k:=by
  induction h with
  | nil=>exact k
  | cons hd hs ih=>exact .cons hd ih
theorem Pcs.at{w:World}{ps:List (UInt8×List UInt8)}{cells:List Value}(h:Pcs w ps cells):∀j (hj:j<ps.length),∃s,cells[j*2]? =some (.int .i64 (ps[j].1.toNat:Int))∧cells[j*2+1]? =some s∧SlC w s ps[j].2:=by
 induction h with
 | nil=>intro j hj;simp at hj
 | cons hd hs ih=>
   intro j hj
   cases j with
   | zero=>exact⟨_,rfl,rfl,hd⟩
   | succ j=>
     obtain⟨s,h1,h2,h3⟩:=ih j (by simpa using hj)
     refine⟨s,?_,?_,h3⟩
     ·rw [show(j+1)*2=j*2+2 by omega];simpa using h1
     ·rw [show(j+1)*2+1=j*2+1+2 by omega];simpa using h2
theorem info143:(Tryz.prog.info? 143).map (fun i=>(i.zero,i.size,i.bytes))=some (some (.agg #[.int .i64 0,.slice none 0 0]),2,32):=by kernel_rfl
theorem piece_made(w:World)(N s:Nat)(hN:N<18446744073709551616)(hs:s≤8)(head l:List UInt8)(vh vl:Value)(hh:SlC w vh head)(hl:SlC w vl l)(hlen:head.length+l.length≤1073741824):
 Calls Tryz.prog 133 #[.int .u64 (N:Int),.int .i64 (s:Int)] w fun e w4=>∃v4 v5 w5 v6 w6,e=.returned v4∧New w w4∧
  (Builtin.append_ #[27,27] 27 #[v4,vh]).run Tryz.prog w4=.ok v5 w5∧New w w5∧(Builtin.append_ #[27,27] 27 #[v5,vl]).run Tryz.prog w5=.ok v6 w6∧New w w6∧RowB w6 w.heap.size v6 (beB s N++head++l):=by
 refine(big_is N s hN hs w).mono ?_
 rintro e w4 ⟨v4,rfl,k4,hrow4⟩
 have h4:=hrow4
 obtain⟨v5,w5,hr5,hrow5,k5,_⟩:=hrow4.appC (hh.keep k4) (by rw [beB_len];omega) k4.size
 have k05:=k4.then k5 (fun i hi _=>h4.far i hi)
 have h5:=hrow5
 obtain⟨v6,w6,hr6,hrow6,k6,_⟩:=hrow5.appC (hl.keep k05) (by simp [beB_len];omega) k05.size
 exact⟨v4,v5,w5,v6,w6,rfl,k4,hr5,k05,hr6,k05.then k6 (fun i hi _=>h5.far i hi),hrow6⟩
theorem lengthed_t(c8 c32:UInt8)(v:Value)(l:List UInt8)(w:World)(hv:SlC w v l)(hl:l.length≤1000000000):
 Calls Tryz.prog 83 #[.int .i64 (c8.toNat:Int),.int .i64 (c32.toNat:Int),v,(.int .i64 (-1))] w fun e w'=>∃sl,e=.returned sl∧New w w'∧RowG 143 2 Pcs w' w.heap.size sl (lng c8 c32 l):=by
 have HV:=Lib.hid hv
 obtain⟨A,c,rfl,-⟩:=hv
 obtain⟨N,hN⟩:∃N,N=l.length:=⟨_,rfl⟩
 have HN:=Lib.hid hN
 rw [←hN]at HV hl ⊢
 clear hN
 go_enter Tryz.func83,Tryz.ntmps83
 go_wp2_with fail
 go_loopg [9,20] 2 (fun kk s9 s20 wr=>New w wr∧wr.heap[w.heap.size]? =some (.cells #[.int .i64 (c8.toNat:Int),.int .i64 1,.int .i64 (c32.toNat:Int),.int .i64 4] 296 (0,0))∧((kk=2∧s20=.int .i64 0∧RowG 143 2 Pcs wr (w.heap.size+1) s9 [])∨(kk=1∧s20=.int .i64 1∧RowG 143 2 Pcs wr (w.heap.size+1) s9 (if l.length≤255 then [(c8,beB 1 l.length++l)]else []))∨(kk=0∧s20=.int .i64 2∧RowG 143 2 Pcs wr (w.heap.size+1) s9 (lng c8 c32 l))))
 case atStart=>exact⟨(Keep.refl _ w).alloc _,blk_new w _,.inl ⟨rfl,rfl,RowG.nil pieceCells⟩⟩
 case round=>
  obtain⟨kr,hfm,hst⟩:=hrel
  rcases hst with⟨rfl,rfl,hrow⟩ | ⟨rfl,rfl,hrow⟩ | ⟨rfl,rfl,hrow⟩
  ·obtain⟨A9,c9,hs9⟩:=hrow.shape
   subst hs9
   obtain⟨us,hus⟩:∃us,us=([]:List (UInt8×List UInt8)):=⟨_,rfl⟩
   rw [←hus]at hrow ⊢
   have HUS:=Lib.hid hus
   have hul:us.length≤1:=by rw [hus];simp
   clear hus
   have g0:=(blk_cell hfm 0).trans rfl
   have g1:=(blk_cell hfm 1).trans rfl
   have HROW:=Lib.hid hrow
   have HFM:=Lib.hid hfm
   have hsz:=kr.size
   have hszw:=lt_blk hfm
   have hownlt:=Lib.hid (fun g (hg:Value.ownBlock (.slice A9 us.length c9)=some g)=>hrow.ownLt hg)
   clear hrow hfm
   have kA:=((Keep.refl (fun _=>True) wr).alloc (.cells #[.int .i64 (c8.toNat:Int),.int .i64 1] 296)).alloc (.cells #[] 5)
   have hF:=blk_alloc (blk_new wr (.cells #[.int .i64 (c8.toNat:Int),.int .i64 1] 296)) (.cells #[] 5)
   have hE:=blk_new (wr.alloc (.cells #[.int .i64 (c8.toNat:Int),.int .i64 1] 296)) (.cells #[] 5)
   rw [World.size_alloc]at hE
   have x0:=(blk_cell hF 0).trans rfl
   have x1:=(blk_cell hF 1).trans rfl
   have HEmp:Hid (SlC ((wr.alloc (.cells #[.int .i64 (c8.toNat:Int),.int .i64 1] 296)).alloc (.cells #[] 5)) (.slice (some ⟨wr.heap.size+1,0,none⟩) 0 0) []):=Lib.hid ⟨_,0,rfl,Nat.le_refl _,by omega,fun h=>absurd rfl h⟩
   by_cases hc:N≤255
   case neg=>
    have t1:decide ((255:Int)<(N:Int))=true:=by simp;omega
    go_wp2
    go_roundg 1
    case measure=>omega
    case rel=>
     refine⟨kr.trans kA,kA.blk HFM.out trivial,.inr (.inl ⟨rfl,rfl,?_⟩)⟩
     rw [if_neg (by rw [←HN.out];omega)]
     have:=HROW.out.keep kA (fun _ _=>trivial)
     exact Eq.mp (congrArg (fun z=>RowG 143 2 Pcs _ (w.heap.size+1) (.slice A9 us.length c9) z) HUS.out) this
   have t1:decide ((255:Int)<(N:Int))=false:=by simp;omega
   have hu:=u64n (n:=N) (by omega)
   have hpm:=piece_made ((wr.alloc (.cells #[.int .i64 (c8.toNat:Int),.int .i64 1] 296)).alloc (.cells #[] 5)).drew N 1 (by omega) (by omega) [] l _ _ (HEmp.out.keep ((Keep.refl _ _).drew)) (((HV.out.keep (kr.trans kA)).keep ((Keep.refl _ _).drew))) (by have:=HN.out;simp;omega)
   have kW:=kA.drew
   have HPM:=Lib.hid hpm
   have KW:=Lib.hid kW
   clear hpm kW
   go_wp2_with fail
   go_region_law (first
    | (go_simp;go_at_call 133;refine HPM.out.mono ?_;rintro e w4 ⟨v4,v5,w5,v6,w6,rfl,k4,hr5,k5,hr6,k6,hrow6⟩;have y4:=k4.cell (show(((wr.alloc (.cells #[.int .i64 (c8.toNat:Int),.int .i64 1] 296)).alloc (.cells #[] 5)).drew).cell? _=_ from x0) trivial;have y5:=k5.cell (show(((wr.alloc (.cells #[.int .i64 (c8.toNat:Int),.int .i64 1] 296)).alloc (.cells #[] 5)).drew).cell? _=_ from x0) trivial;have y6:=k6.cell (show(((wr.alloc (.cells #[.int .i64 (c8.toNat:Int),.int .i64 1] 296)).alloc (.cells #[] 5)).drew).cell? _=_ from x0) trivial;obtain⟨A6,n6,c6,hs6⟩:∃A n c,v6=.slice A n c:=(let ⟨A,c,e⟩:=hrow6.shape;⟨A,_,c,e⟩);subst hs6;have y7:=cell_alloc y6 (.cells #[.int .i64 (c8.toNat:Int),(.slice A6 n6 c6)] 143);have kN:=(Keep.refl (fun _=>True) w6).alloc (.cells #[.int .i64 (c8.toNat:Int),(.slice A6 n6 c6)] 143);obtain⟨g7,cap7,w7,hap7,hrow7,k7,_⟩:=((HROW.out.keep (KW.out.trans k6) (fun _ _=>trivial)).keep kN (fun _ _=>trivial)).step pieceCells (vs:=[(c8,beB 1 (N)++[]++l)]) Tryz.underlying140 info143 rfl (by omega) (by omega) w6.heap.size 0 1 [.int .i64 (c8.toNat:Int),(.slice A6 n6 c6)] (fun q z hq=>by rw [blk_cell (blk_new w6 (.cells #[.int .i64 (c8.toNat:Int),(.slice A6 n6 c6)] 143)),Nat.zero_add];simpa using hq) ((hrow6.out.step kN.size (fun i hi _=>kN.block i hi trivial) (fun b hb hok=>⟨Nat.le_trans (Nat.le_trans hszw (KW.out.size)) hok,fun e=>Nat.lt_irrefl _ (Nat.lt_of_lt_of_le (hownlt.out b e.symm) (Nat.le_trans KW.out.size hok))⟩)).imp fun w h=>Pcs.cons h.toC .nil) (by simp) (by simp;omega) (Nat.le_trans (Nat.le_trans (Nat.le_trans hszw KW.out.size) k6.size) kN.size);simp only [List.length_singleton]at hap7 hrow7)
    | (refine at_dst 61 (by rfl) ?_;refine step_append_eq hr5 (by rfl) _ _ (by rfl) (by rfl) (by rfl) ?_)
    | (refine at_dst 63 (by rfl) ?_;refine step_append_eq hr6 (by rfl) _ _ (by rfl) (by rfl) (by rfl) ?_)
    | (refine at_dst 66 (by rfl) ?_;refine step_append_eq hap7 (by rfl) _ _ (by rfl) (by rfl) (by rfl) ?_))
   all_goals
    go_wp2
    go_roundg 1
    case measure=>omega
    case rel=>
     have kall:=(KW.out.trans k6).trans kN
     have hfar:=HROW.out.far
     have hE:us++[(c8,beB 1 (N)++[]++l)]=((if l.length≤255 then [(c8,beB 1 l.length++l)]else []):List (UInt8×List UInt8)):=by
      rw [HUS.out,HN.out,if_pos (by rw [←HN.out];omega)];simp
     refine⟨(kr.trans kall).then k7 (fun i hi _=>hfar i (by omega)),k7.blk (kall.blk HFM.out trivial) (hfar _ (by omega)),.inr (.inl ⟨rfl,rfl,?_⟩)⟩
     exact Eq.mp (congrArg (fun z=>RowG 143 2 Pcs w7 (w.heap.size+1) (.slice (some ⟨g7,0,none⟩) (us.length+1) cap7) z) hE) hrow7
  ·obtain⟨A9,c9,hs9⟩:=hrow.shape
   subst hs9
   obtain⟨us,hus⟩:∃us,us=((if l.length≤255 then [(c8,beB 1 l.length++l)]else []):List (UInt8×List UInt8)):=⟨_,rfl⟩
   rw [←hus]at hrow ⊢
   have HUS:=Lib.hid hus
   have hul:us.length≤1:=by rw [hus];split<;>simp
   clear hus
   have g0:=(blk_cell hfm 2).trans rfl
   have g1:=(blk_cell hfm 3).trans rfl
   have HROW:=Lib.hid hrow
   have HFM:=Lib.hid hfm
   have hsz:=kr.size
   have hszw:=lt_blk hfm
   have hownlt:=Lib.hid (fun g (hg:Value.ownBlock (.slice A9 us.length c9)=some g)=>hrow.ownLt hg)
   clear hrow hfm
   have kA:=((Keep.refl (fun _=>True) wr).alloc (.cells #[.int .i64 (c32.toNat:Int),.int .i64 4] 296)).alloc (.cells #[] 5)
   have hF:=blk_alloc (blk_new wr (.cells #[.int .i64 (c32.toNat:Int),.int .i64 4] 296)) (.cells #[] 5)
   have hE:=blk_new (wr.alloc (.cells #[.int .i64 (c32.toNat:Int),.int .i64 4] 296)) (.cells #[] 5)
   rw [World.size_alloc]at hE
   have x0:=(blk_cell hF 0).trans rfl
   have x1:=(blk_cell hF 1).trans rfl
   have HEmp:Hid (SlC ((wr.alloc (.cells #[.int .i64 (c32.toNat:Int),.int .i64 4] 296)).alloc (.cells #[] 5)) (.slice (some ⟨wr.heap.size+1,0,none⟩) 0 0) []):=Lib.hid ⟨_,0,rfl,Nat.le_refl _,by omega,fun h=>absurd rfl h⟩
   have hu:=u64n (n:=N) (by omega)
   have hpm:=piece_made ((wr.alloc (.cells #[.int .i64 (c32.toNat:Int),.int .i64 4] 296)).alloc (.cells #[] 5)).drew N 4 (by omega) (by omega) [] l _ _ (HEmp.out.keep ((Keep.refl _ _).drew)) (((HV.out.keep (kr.trans kA)).keep ((Keep.refl _ _).drew))) (by have:=HN.out;simp;omega)
   have kW:=kA.drew
   have HPM:=Lib.hid hpm
   have KW:=Lib.hid kW
   clear hpm kW
   go_wp2_with fail
   go_region_law (first
    | (go_simp;go_at_call 133;refine HPM.out.mono ?_;rintro e w4 ⟨v4,v5,w5,v6,w6,rfl,k4,hr5,k5,hr6,k6,hrow6⟩;have y4:=k4.cell (show(((wr.alloc (.cells #[.int .i64 (c32.toNat:Int),.int .i64 4] 296)).alloc (.cells #[] 5)).drew).cell? _=_ from x0) trivial;have y5:=k5.cell (show(((wr.alloc (.cells #[.int .i64 (c32.toNat:Int),.int .i64 4] 296)).alloc (.cells #[] 5)).drew).cell? _=_ from x0) trivial;have y6:=k6.cell (show(((wr.alloc (.cells #[.int .i64 (c32.toNat:Int),.int .i64 4] 296)).alloc (.cells #[] 5)).drew).cell? _=_ from x0) trivial;obtain⟨A6,n6,c6,hs6⟩:∃A n c,v6=.slice A n c:=(let ⟨A,c,e⟩:=hrow6.shape;⟨A,_,c,e⟩);subst hs6;have y7:=cell_alloc y6 (.cells #[.int .i64 (c32.toNat:Int),(.slice A6 n6 c6)] 143);have kN:=(Keep.refl (fun _=>True) w6).alloc (.cells #[.int .i64 (c32.toNat:Int),(.slice A6 n6 c6)] 143);obtain⟨g7,cap7,w7,hap7,hrow7,k7,_⟩:=((HROW.out.keep (KW.out.trans k6) (fun _ _=>trivial)).keep kN (fun _ _=>trivial)).step pieceCells (vs:=[(c32,beB 4 (N)++[]++l)]) Tryz.underlying140 info143 rfl (by omega) (by omega) w6.heap.size 0 1 [.int .i64 (c32.toNat:Int),(.slice A6 n6 c6)] (fun q z hq=>by rw [blk_cell (blk_new w6 (.cells #[.int .i64 (c32.toNat:Int),(.slice A6 n6 c6)] 143)),Nat.zero_add];simpa using hq) ((hrow6.out.step kN.size (fun i hi _=>kN.block i hi trivial) (fun b hb hok=>⟨Nat.le_trans (Nat.le_trans hszw (KW.out.size)) hok,fun e=>Nat.lt_irrefl _ (Nat.lt_of_lt_of_le (hownlt.out b e.symm) (Nat.le_trans KW.out.size hok))⟩)).imp fun w h=>Pcs.cons h.toC .nil) (by simp) (by simp;omega) (Nat.le_trans (Nat.le_trans (Nat.le_trans hszw KW.out.size) k6.size) kN.size);simp only [List.length_singleton]at hap7 hrow7)
    | (refine at_dst 61 (by rfl) ?_;refine step_append_eq hr5 (by rfl) _ _ (by rfl) (by rfl) (by rfl) ?_)
    | (refine at_dst 63 (by rfl) ?_;refine step_append_eq hr6 (by rfl) _ _ (by rfl) (by rfl) (by rfl) ?_)
    | (refine at_dst 66 (by rfl) ?_;refine step_append_eq hap7 (by rfl) _ _ (by rfl) (by rfl) (by rfl) ?_))
   all_goals
    go_wp2
    go_roundg 0
    case measure=>omega
    case rel=>
     have kall:=(KW.out.trans k6).trans kN
     have hfar:=HROW.out.far
     have hE:us++[(c32,beB 4 (N)++[]++l)]=(lng c8 c32 l:List (UInt8×List UInt8)):=by
      rw [HUS.out,HN.out];unfold lng;simp
     refine⟨(kr.trans kall).then k7 (fun i hi _=>hfar i (by omega)),k7.blk (kall.blk HFM.out trivial) (hfar _ (by omega)),.inr (.inr ⟨rfl,rfl,?_⟩)⟩
     exact Eq.mp (congrArg (fun z=>RowG 143 2 Pcs w7 (w.heap.size+1) (.slice (some ⟨g7,0,none⟩) (us.length+1) cap7) z) hE) hrow7
  ·obtain⟨A9,c9,hs9⟩:=hrow.shape
   subst hs9
   go_wp2
   go_ret
   exact⟨_,rfl,kr,hrow.mono (by omega)⟩
end Go.Proofs.YtfoegolfadhmjaaGreatDoor
