/- Arrays of numbers and texts as values, further types. Arrays of moments and of uuids as values. -/
import Derived.Test.YtfoegolfadhmjaaGreatDoorU03
import Derived.Test.YtfoegolfadhmjaaGreatDoorU04
set_option linter.unusedVariables false
set_option linter.unusedSimpArgs false
set_option maxRecDepth 100000
set_option maxHeartbeats 4000000
namespace Go.Proofs.YtfoegolfadhmjaaGreatDoor
open Go.RowKit Go.WideShapes
theorem lit155(n:Nat)(h:n<256)(w:World):Calls Tryz.prog 155 #[.int .u8 n] w fun e w'=>e=.returned (.int .u64 n)∧New w w':=by
 have hu:=u64n (n:=n) (by omega)
 go_enter Tryz.func155,Tryz.ntmps155
 go_wp2
 go_ret
 exact⟨rfl,Keep.refl _ _⟩
theorem lit180(s:ByteArray)(w:World):Calls Tryz.prog 180 #[.string s] w fun e w'=>e=.returned (.string s)∧New w w':=by
 go_enter Tryz.func180,Tryz.ntmps180
 go_wp2
 go_ret
 exact⟨rfl,Keep.refl _ _⟩
theorem lit178(v:Value)(t:List UInt8)(w:World)(h:SlB w v t):Calls Tryz.prog 178 #[v] w fun e w'=>e=.returned (.string ⟨t.toArray⟩)∧New w w':=by
 have hv:(convert 27 9 v).run Tryz.prog w=.ok (.string ⟨t.toArray⟩) w:=conv_string w v t h
 go_enter Tryz.func178,Tryz.ntmps178
 go_wp2
 go_ret
 exact⟨rfl,Keep.refl _ _⟩
theorem numbered_u8(k:Int)(ns:List UInt8)(hmax:ns.length≤1000)(d i c:Nat)(hc1:ns.length≤c)(hc2:c≤9223372036854775807)(w:World)(hd:BytesAt w d i ns):
 Calls Tryz.prog 154 #[.int .i64 k,.slice (some ⟨d,i,none⟩) ns.length c,.func (.func 155) #[] #[]] w fun e w'=>∃sk,e=.returned (.agg #[.int .i64 23,.int .u64 0,.string ⟨#[]⟩,sk,.int .i64 k,.slice none 0 0])∧New w w'∧
  w'.ownsRow (w.heap.size+2) 78 6 sk ns.length (plainCells k (ns.map fun x=>(x.toNat,[]))):=by
 obtain⟨n,hn⟩:∃n,n=ns.length:=⟨_,rfl⟩
 rw [←hn]at hmax ⊢
 have N:=Lib.hid hn
 have HD:=Lib.hid hd
 clear hn hd
 go_enter Tryz.func154,Tryz.ntmps154
 go_wp2_with fail
 go_loopg [14] n (fun m s14 wr=>∃(j:Nat) (sk:Value),j+m=n∧s14=.int .i64 (j:Int)∧New w wr∧wr.heap[w.heap.size]? =some (.cells #[.int .i64 0,.int .u64 0,.string ⟨#[]⟩,.slice none 0 0,.int .i64 0,.slice none 0 0] 78 (0,0))∧wr.heap[w.heap.size+1]? =some (.cells #[.int .i64 23,.int .u64 0,.string ⟨#[]⟩,sk,.int .i64 k,.slice none 0 0] 78 (0,0))∧wr.ownsRow (w.heap.size+2) 78 6 sk j (plainCells k ((ns.take j).map fun x=>(x.toNat,[]))))
 case atStart=>
  refine⟨0,.slice none 0 0,by omega,rfl,((Keep.refl _ _).alloc _).alloc _,blk_alloc (blk_new w _) _,?_,rfl,.inl ⟨rfl,rfl⟩⟩
  simpa using blk_new (w.alloc (.cells #[.int .i64 0,.int .u64 0,.string ⟨#[]⟩,.slice none 0 0,.int .i64 0,.slice none 0 0] 78)) (.cells #[.int .i64 23,.int .u64 0,.string ⟨#[]⟩,.slice none 0 0,.int .i64 k,.slice none 0 0] 78)
 case round=>
  obtain⟨j,sk,hj,rfl,kr,hv0,hv,hown⟩:=hrel
  cases gk with
  | zero=>
    obtain rfl:j=n:=by omega
    have hsh:=own_shape hown
    obtain⟨A,cc,rfl⟩:=hsh
    have c0:=(blk_cell hv 0).trans rfl
    have e0:=(blk_cell hv0 0).trans rfl
    have f0:=blk_free hv0 0
    have c1:=(blk_cell hv 1).trans rfl
    have e1:=(blk_cell hv0 1).trans rfl
    have f1:=blk_free hv0 1
    have c2:=(blk_cell hv 2).trans rfl
    have e2:=(blk_cell hv0 2).trans rfl
    have f2:=blk_free hv0 2
    have c3:=(blk_cell hv 3).trans rfl
    have e3:=(blk_cell hv0 3).trans rfl
    have f3:=blk_free hv0 3
    have c4:=(blk_cell hv 4).trans rfl
    have e4:=(blk_cell hv0 4).trans rfl
    have f4:=blk_free hv0 4
    have c5:=(blk_cell hv 5).trans rfl
    have e5:=(blk_cell hv0 5).trans rfl
    have f5:=blk_free hv0 5
    have hown':=own_near hown ((((((((Keep.refl (fun b=>w.heap.size+2≤b) wr).setCell (p:=⟨w.heap.size,0,none⟩) (.inr (by simp)) (.int .i64 23)).setCell (p:=⟨w.heap.size,1,none⟩) (.inr (by simp)) (.int .u64 0)).setCell (p:=⟨w.heap.size,2,none⟩) (.inr (by simp)) (.string ⟨#[]⟩)).setCell (p:=⟨w.heap.size,3,none⟩) (.inr (by simp)) (.slice A j cc)).setCell (p:=⟨w.heap.size,4,none⟩) (.inr (by simp)) (.int .i64 k)).setCell (p:=⟨w.heap.size,5,none⟩) (.inr (by simp)) (.slice none 0 0)))
    have HO:=Lib.hid hown'
    clear hv hv0 hown hown'
    go_wp2
    refine bodyPost_ret (v:=.agg #[.int .i64 23,.int .u64 0,.string ⟨#[]⟩,.slice A j cc,.int .i64 k,.slice none 0 0]) (by simp [results,Tryz.results154,go_sem,e0,e1,e2,e3,e4,e5]) rfl ⟨_,rfl,?_,?_⟩
    ·repeat (refine Keep.setCell ?_ (Or.inl (b:=¬True) (Nat.le_refl _)) _)
     exact kr
    ·have:=HO.out
     rw [N.out,List.take_length]at this
     rw [N.out]
     exact this
  | succ m=>
    have hjn:j<n:=by omega
    have tj:decide ((j:Int)<n)=true:=by simpa using hjn
    have e4:(j:Int)<n:=by omega
    have hjx:j<ns.length:=by rw [←N.out];exact hjn
    obtain⟨x,hx⟩:∃x,x=ns[j]'hjx:=⟨_,rfl⟩
    have hcx:wr.cell? ⟨d,i+j,none⟩=some (.int .u8 (x.toNat:Int)):=by
     rw [hx]
     exact(HD.out.new kr).cell j hjx
    have c3:wr.cell? ⟨w.heap.size+1,3,none⟩=some sk:=(blk_cell hv 3).trans rfl
    have f3:=blk_free hv 3
    have HX:=Lib.hid hx
    clear hx
    obtain⟨A,cc,rfl⟩:=own_shape hown
    have hv':New wr wr.drew:=(Keep.refl _ wr).drew
    have hsz:=lt_blk hv
    go_wp2_with fail
    go_region_law
     (first | (go_simp;go_at_call 155;refine(lit155 x.toNat (by have:=x.toNat_lt;omega) _).mono ?_;rintro e w4 ⟨rfl,k4⟩;have c34:=(hv'.trans k4).cell c3 trivial;have c35:=cell_alloc c34 (.cells #[.int .i64 k,.int .u64 (x.toNat:Int),.string ⟨#[]⟩,.slice none 0 0,.int .i64 0,.slice none 0 0] 78);have k45:New wr (w4.alloc (.cells #[.int .i64 k,.int .u64 (x.toNat:Int),.string ⟨#[]⟩,.slice none 0 0,.int .i64 0,.slice none 0 0] 78)):=((hv'.trans k4).alloc _);obtain⟨g5,c5,w5,hap,hown5,k5⟩:=append_val (w4.alloc (.cells #[.int .i64 k,.int .u64 (x.toNat:Int),.string ⟨#[]⟩,.slice none 0 0,.int .i64 0,.slice none 0 0] 78)) (w.heap.size+2) (.slice A j cc) j _ (own_keep hown k45) w4.heap.size 1 [.int .i64 k,.int .u64 (x.toNat:Int),.string ⟨#[]⟩,.slice none 0 0,.int .i64 0,.slice none 0 0] rfl (blk_new _ _) (by simp [Value.oneCell']) (by omega) (by have:=k45.size;omega);have far:=own_far hown;have hv5:=k5.blk (k45.blk hv trivial) (far _ (by omega));have f5:=blk_free hv5 3;have c5':w5.cell? ⟨w.heap.size+1,3,none⟩=some (.slice A j cc):=(blk_cell hv5 3).trans rfl) | (refine step_append_eq hap (by rfl) _ _ (by rfl) (by rfl) (by rfl) ?_))
    all_goals
     go_wp2
     go_roundg m
     case measure=>omega
     case rel=>
      have hl5:=lt_blk hv5
      have hcs:plainCells k ((ns.take (j+1)).map fun x=>(x.toNat,[]))=plainCells k ((ns.take j).map fun x=>(x.toNat,[]))++[.int .i64 k,.int .u64 (x.toNat:Int),.string ⟨#[]⟩,.slice none 0 0,.int .i64 0,.slice none 0 0]:=by
       rw [←List.take_append_getElem hjx,←HX.out]
       simp [plainCells]
      refine⟨j+1,.slice (some ⟨g5,0,none⟩) (j+1) c5,by omega,congrArg _ (by omega),((kr.trans k45).then k5 (fun i hi _=>far i (by omega))).setCell (p:=⟨w.heap.size+1,3,none⟩) (Or.inl (b:=¬True) (Nat.le_succ _)) _,?_,?_,?_⟩
      ·exact blk_far (k5.blk (k45.blk hv0 trivial) (far _ (by omega))) (p:=⟨w.heap.size+1,3,none⟩) (by simp) _
      ·exact(blk_set hv5 3 _).trans (by simp)
      ·rw [hcs]
       exact own_near hown5 ((Keep.refl (fun b=>w.heap.size+2≤b) w5).setCell (p:=⟨w.heap.size+1,3,none⟩) (.inr (by simp)) _)
theorem worded_str(k:Int)(ns:List (List UInt8))(hmax:ns.length≤1000)(d:Nat)(w:World)(hd:w.heap[d]? =some (.cells (ns.map fun (x:List UInt8)=>Value.string ⟨x.toArray⟩).toArray 9 (0,0))):
 Calls Tryz.prog 179 #[.int .i64 k,.slice (some ⟨d,0,none⟩) ns.length ns.length,.func (.func 180) #[] #[]] w fun e w'=>∃sk,e=.returned (.agg #[.int .i64 23,.int .u64 0,.string ⟨#[]⟩,sk,.int .i64 k,.slice none 0 0])∧New w w'∧
  w'.ownsRow (w.heap.size+2) 78 6 sk ns.length (plainCells k (ns.map fun x=>(0,x))):=by
 obtain⟨n,hn⟩:∃n,n=ns.length:=⟨_,rfl⟩
 rw [←hn]at hmax ⊢
 have N:=Lib.hid hn
 have HD:=Lib.hid hd
 clear hn hd
 go_enter Tryz.func179,Tryz.ntmps179
 go_wp2_with fail
 go_loopg [14] n (fun m s14 wr=>∃(j:Nat) (sk:Value),j+m=n∧s14=.int .i64 (j:Int)∧New w wr∧wr.heap[w.heap.size]? =some (.cells #[.int .i64 0,.int .u64 0,.string ⟨#[]⟩,.slice none 0 0,.int .i64 0,.slice none 0 0] 78 (0,0))∧wr.heap[w.heap.size+1]? =some (.cells #[.int .i64 23,.int .u64 0,.string ⟨#[]⟩,sk,.int .i64 k,.slice none 0 0] 78 (0,0))∧wr.ownsRow (w.heap.size+2) 78 6 sk j (plainCells k ((ns.take j).map fun x=>(0,x))))
 case atStart=>
  refine⟨0,.slice none 0 0,by omega,rfl,((Keep.refl _ _).alloc _).alloc _,blk_alloc (blk_new w _) _,?_,rfl,.inl ⟨rfl,rfl⟩⟩
  simpa using blk_new (w.alloc (.cells #[.int .i64 0,.int .u64 0,.string ⟨#[]⟩,.slice none 0 0,.int .i64 0,.slice none 0 0] 78)) (.cells #[.int .i64 23,.int .u64 0,.string ⟨#[]⟩,.slice none 0 0,.int .i64 k,.slice none 0 0] 78)
 case round=>
  obtain⟨j,sk,hj,rfl,kr,hv0,hv,hown⟩:=hrel
  cases gk with
  | zero=>
    obtain rfl:j=n:=by omega
    have hsh:=own_shape hown
    obtain⟨A,cc,rfl⟩:=hsh
    have c0:=(blk_cell hv 0).trans rfl
    have e0:=(blk_cell hv0 0).trans rfl
    have f0:=blk_free hv0 0
    have c1:=(blk_cell hv 1).trans rfl
    have e1:=(blk_cell hv0 1).trans rfl
    have f1:=blk_free hv0 1
    have c2:=(blk_cell hv 2).trans rfl
    have e2:=(blk_cell hv0 2).trans rfl
    have f2:=blk_free hv0 2
    have c3:=(blk_cell hv 3).trans rfl
    have e3:=(blk_cell hv0 3).trans rfl
    have f3:=blk_free hv0 3
    have c4:=(blk_cell hv 4).trans rfl
    have e4:=(blk_cell hv0 4).trans rfl
    have f4:=blk_free hv0 4
    have c5:=(blk_cell hv 5).trans rfl
    have e5:=(blk_cell hv0 5).trans rfl
    have f5:=blk_free hv0 5
    have hown':=own_near hown ((((((((Keep.refl (fun b=>w.heap.size+2≤b) wr).setCell (p:=⟨w.heap.size,0,none⟩) (.inr (by simp)) (.int .i64 23)).setCell (p:=⟨w.heap.size,1,none⟩) (.inr (by simp)) (.int .u64 0)).setCell (p:=⟨w.heap.size,2,none⟩) (.inr (by simp)) (.string ⟨#[]⟩)).setCell (p:=⟨w.heap.size,3,none⟩) (.inr (by simp)) (.slice A j cc)).setCell (p:=⟨w.heap.size,4,none⟩) (.inr (by simp)) (.int .i64 k)).setCell (p:=⟨w.heap.size,5,none⟩) (.inr (by simp)) (.slice none 0 0)))
    have HO:=Lib.hid hown'
    clear hv hv0 hown hown'
    go_wp2
    refine bodyPost_ret (v:=.agg #[.int .i64 23,.int .u64 0,.string ⟨#[]⟩,.slice A j cc,.int .i64 k,.slice none 0 0]) (by simp [results,Tryz.results179,go_sem,e0,e1,e2,e3,e4,e5]) rfl ⟨_,rfl,?_,?_⟩
    ·repeat (refine Keep.setCell ?_ (Or.inl (b:=¬True) (Nat.le_refl _)) _)
     exact kr
    ·have:=HO.out
     rw [N.out,List.take_length]at this
     rw [N.out]
     exact this
  | succ m=>
    have hjn:j<n:=by omega
    have tj:decide ((j:Int)<n)=true:=by simpa using hjn
    have e4:(j:Int)<n:=by omega
    have hjx:j<ns.length:=by rw [←N.out];exact hjn
    obtain⟨x,hx⟩:∃x,x=ns[j]'hjx:=⟨_,rfl⟩
    have hcx:wr.cell? ⟨d,j,none⟩=some (.string ⟨x.toArray⟩):=by
     rw [blk_cell (kr.blk HD.out trivial),hx]
     simp [hjx]
    have c3:wr.cell? ⟨w.heap.size+1,3,none⟩=some sk:=(blk_cell hv 3).trans rfl
    have f3:=blk_free hv 3
    have HX:=Lib.hid hx
    clear hx
    obtain⟨A,cc,rfl⟩:=own_shape hown
    have hv':New wr wr.drew:=(Keep.refl _ wr).drew
    have hsz:=lt_blk hv
    go_wp2_with fail
    go_region_law
     (first | (go_simp;go_at_call 180;refine(lit180 _ _).mono ?_;rintro e w4 ⟨rfl,k4⟩;have c34:=(hv'.trans k4).cell c3 trivial;have c35:=cell_alloc c34 (.cells #[.int .i64 k,.int .u64 0,.string ⟨x.toArray⟩,.slice none 0 0,.int .i64 0,.slice none 0 0] 78);have k45:New wr (w4.alloc (.cells #[.int .i64 k,.int .u64 0,.string ⟨x.toArray⟩,.slice none 0 0,.int .i64 0,.slice none 0 0] 78)):=((hv'.trans k4).alloc _);obtain⟨g5,c5,w5,hap,hown5,k5⟩:=append_val (w4.alloc (.cells #[.int .i64 k,.int .u64 0,.string ⟨x.toArray⟩,.slice none 0 0,.int .i64 0,.slice none 0 0] 78)) (w.heap.size+2) (.slice A j cc) j _ (own_keep hown k45) w4.heap.size 1 [.int .i64 k,.int .u64 0,.string ⟨x.toArray⟩,.slice none 0 0,.int .i64 0,.slice none 0 0] rfl (blk_new _ _) (by simp [Value.oneCell']) (by omega) (by have:=k45.size;omega);have far:=own_far hown;have hv5:=k5.blk (k45.blk hv trivial) (far _ (by omega));have f5:=blk_free hv5 3;have c5':w5.cell? ⟨w.heap.size+1,3,none⟩=some (.slice A j cc):=(blk_cell hv5 3).trans rfl) | (refine step_append_eq hap (by rfl) _ _ (by rfl) (by rfl) (by rfl) ?_))
    all_goals
     go_wp2
     go_roundg m
     case measure=>omega
     case rel=>
      have hl5:=lt_blk hv5
      have hcs:plainCells k ((ns.take (j+1)).map fun x=>(0,x))=plainCells k ((ns.take j).map fun x=>(0,x))++[.int .i64 k,.int .u64 0,.string ⟨x.toArray⟩,.slice none 0 0,.int .i64 0,.slice none 0 0]:=by
       rw [←List.take_append_getElem hjx,←HX.out]
       simp [plainCells]
      refine⟨j+1,.slice (some ⟨g5,0,none⟩) (j+1) c5,by omega,congrArg _ (by omega),((kr.trans k45).then k5 (fun i hi _=>far i (by omega))).setCell (p:=⟨w.heap.size+1,3,none⟩) (Or.inl (b:=¬True) (Nat.le_succ _)) _,?_,?_,?_⟩
      ·exact blk_far (k5.blk (k45.blk hv0 trivial) (far _ (by omega))) (p:=⟨w.heap.size+1,3,none⟩) (by simp) _
      ·exact(blk_set hv5 3 _).trans (by simp)
      ·rw [hcs]
       exact own_near hown5 ((Keep.refl (fun b=>w.heap.size+2≤b) w5).setCell (p:=⟨w.heap.size+1,3,none⟩) (.inr (by simp)) _)
theorem numbered_f64(k:Int)(ns:List Nat)(hns:∀x∈ns,x<18446744073709551616)(hmax:ns.length≤1000)(d:Nat)(w:World)(hd:w.heap[d]? =some (.cells (ns.map fun (x:Nat)=>Value.float .f64 x).toArray 216 (0,0))):
 Calls Tryz.prog 172 #[.int .i64 k,.slice (some ⟨d,0,none⟩) ns.length ns.length,.func (.func 149) #[] #[]] w fun e w'=>∃sk,e=.returned (.agg #[.int .i64 23,.int .u64 0,.string ⟨#[]⟩,sk,.int .i64 k,.slice none 0 0])∧New w w'∧
  w'.ownsRow (w.heap.size+2) 78 6 sk ns.length (plainCells k (ns.map fun x=>(x,[]))):=by
 obtain⟨n,hn⟩:∃n,n=ns.length:=⟨_,rfl⟩
 rw [←hn]at hmax ⊢
 have N:=Lib.hid hn
 have HD:=Lib.hid hd
 have HNS:=Lib.hid hns
 clear hn hd hns
 go_enter Tryz.func172,Tryz.ntmps172
 go_wp2_with fail
 go_loopg [14] n (fun m s14 wr=>∃(j:Nat) (sk:Value),j+m=n∧s14=.int .i64 (j:Int)∧New w wr∧wr.heap[w.heap.size]? =some (.cells #[.int .i64 0,.int .u64 0,.string ⟨#[]⟩,.slice none 0 0,.int .i64 0,.slice none 0 0] 78 (0,0))∧wr.heap[w.heap.size+1]? =some (.cells #[.int .i64 23,.int .u64 0,.string ⟨#[]⟩,sk,.int .i64 k,.slice none 0 0] 78 (0,0))∧wr.ownsRow (w.heap.size+2) 78 6 sk j (plainCells k ((ns.take j).map fun x=>(x,[]))))
 case atStart=>
  refine⟨0,.slice none 0 0,by omega,rfl,((Keep.refl _ _).alloc _).alloc _,blk_alloc (blk_new w _) _,?_,rfl,.inl ⟨rfl,rfl⟩⟩
  simpa using blk_new (w.alloc (.cells #[.int .i64 0,.int .u64 0,.string ⟨#[]⟩,.slice none 0 0,.int .i64 0,.slice none 0 0] 78)) (.cells #[.int .i64 23,.int .u64 0,.string ⟨#[]⟩,.slice none 0 0,.int .i64 k,.slice none 0 0] 78)
 case round=>
  obtain⟨j,sk,hj,rfl,kr,hv0,hv,hown⟩:=hrel
  cases gk with
  | zero=>
    obtain rfl:j=n:=by omega
    have hsh:=own_shape hown
    obtain⟨A,cc,rfl⟩:=hsh
    have c0:=(blk_cell hv 0).trans rfl
    have e0:=(blk_cell hv0 0).trans rfl
    have f0:=blk_free hv0 0
    have c1:=(blk_cell hv 1).trans rfl
    have e1:=(blk_cell hv0 1).trans rfl
    have f1:=blk_free hv0 1
    have c2:=(blk_cell hv 2).trans rfl
    have e2:=(blk_cell hv0 2).trans rfl
    have f2:=blk_free hv0 2
    have c3:=(blk_cell hv 3).trans rfl
    have e3:=(blk_cell hv0 3).trans rfl
    have f3:=blk_free hv0 3
    have c4:=(blk_cell hv 4).trans rfl
    have e4:=(blk_cell hv0 4).trans rfl
    have f4:=blk_free hv0 4
    have c5:=(blk_cell hv 5).trans rfl
    have e5:=(blk_cell hv0 5).trans rfl
    have f5:=blk_free hv0 5
    have hown':=own_near hown ((((((((Keep.refl (fun b=>w.heap.size+2≤b) wr).setCell (p:=⟨w.heap.size,0,none⟩) (.inr (by simp)) (.int .i64 23)).setCell (p:=⟨w.heap.size,1,none⟩) (.inr (by simp)) (.int .u64 0)).setCell (p:=⟨w.heap.size,2,none⟩) (.inr (by simp)) (.string ⟨#[]⟩)).setCell (p:=⟨w.heap.size,3,none⟩) (.inr (by simp)) (.slice A j cc)).setCell (p:=⟨w.heap.size,4,none⟩) (.inr (by simp)) (.int .i64 k)).setCell (p:=⟨w.heap.size,5,none⟩) (.inr (by simp)) (.slice none 0 0)))
    have HO:=Lib.hid hown'
    clear hv hv0 hown hown'
    go_wp2
    refine bodyPost_ret (v:=.agg #[.int .i64 23,.int .u64 0,.string ⟨#[]⟩,.slice A j cc,.int .i64 k,.slice none 0 0]) (by simp [results,Tryz.results172,go_sem,e0,e1,e2,e3,e4,e5]) rfl ⟨_,rfl,?_,?_⟩
    ·repeat (refine Keep.setCell ?_ (Or.inl (b:=¬True) (Nat.le_refl _)) _)
     exact kr
    ·have:=HO.out
     rw [N.out,List.take_length]at this
     rw [N.out]
     exact this
  | succ m=>
    have hjn:j<n:=by omega
    have tj:decide ((j:Int)<n)=true:=by simpa using hjn
    have e4:(j:Int)<n:=by omega
    have hjx:j<ns.length:=by rw [←N.out];exact hjn
    obtain⟨x,hx⟩:∃x,x=ns[j]'hjx:=⟨_,rfl⟩
    have hcx:wr.cell? ⟨d,j,none⟩=some (.float .f64 x):=by
     rw [blk_cell (kr.blk HD.out trivial),hx]
     simp [hjx]
    have c3:wr.cell? ⟨w.heap.size+1,3,none⟩=some sk:=(blk_cell hv 3).trans rfl
    have f3:=blk_free hv 3
    have hx2:=HNS.out _ (List.getElem_mem hjx)
    rw [←hx]at hx2
    have HX:=Lib.hid hx
    clear hx
    obtain⟨A,cc,rfl⟩:=own_shape hown
    have hv':New wr wr.drew:=(Keep.refl _ wr).drew
    have hsz:=lt_blk hv
    have k4:New wr.drew wr.drew:=Keep.refl _ _
    have c34:=(hv'.trans k4).cell c3 trivial;have c35:=cell_alloc c34 (.cells #[.int .i64 k,.int .u64 (x:Int),.string ⟨#[]⟩,.slice none 0 0,.int .i64 0,.slice none 0 0] 78);have k45:New wr (wr.drew.alloc (.cells #[.int .i64 k,.int .u64 (x:Int),.string ⟨#[]⟩,.slice none 0 0,.int .i64 0,.slice none 0 0] 78)):=((hv'.trans k4).alloc _);obtain⟨g5,c5,w5,hap,hown5,k5⟩:=append_val (wr.drew.alloc (.cells #[.int .i64 k,.int .u64 (x:Int),.string ⟨#[]⟩,.slice none 0 0,.int .i64 0,.slice none 0 0] 78)) (w.heap.size+2) (.slice A j cc) j _ (own_keep hown k45) wr.drew.heap.size 1 [.int .i64 k,.int .u64 (x:Int),.string ⟨#[]⟩,.slice none 0 0,.int .i64 0,.slice none 0 0] rfl (blk_new _ _) (by simp [Value.oneCell']) (by omega) (by have:=k45.size;omega);have far:=own_far hown;have hv5:=k5.blk (k45.blk hv trivial) (far _ (by omega));have f5:=blk_free hv5 3;have c5':w5.cell? ⟨w.heap.size+1,3,none⟩=some (.slice A j cc):=(blk_cell hv5 3).trans rfl
    go_wp2_with fail
    go_region_law
     (first | (refine step_append_eq hap (by rfl) _ _ (by rfl) (by rfl) (by rfl) ?_))
    all_goals
     go_wp2
     go_roundg m
     case measure=>omega
     case rel=>
      have hl5:=lt_blk hv5
      have hcs:plainCells k ((ns.take (j+1)).map fun x=>(x,[]))=plainCells k ((ns.take j).map fun x=>(x,[]))++[.int .i64 k,.int .u64 (x:Int),.string ⟨#[]⟩,.slice none 0 0,.int .i64 0,.slice none 0 0]:=by
       rw [←List.take_append_getElem hjx,←HX.out]
       simp [plainCells]
      refine⟨j+1,.slice (some ⟨g5,0,none⟩) (j+1) c5,by omega,congrArg _ (by omega),((kr.trans k45).then k5 (fun i hi _=>far i (by omega))).setCell (p:=⟨w.heap.size+1,3,none⟩) (Or.inl (b:=¬True) (Nat.le_succ _)) _,?_,?_,?_⟩
      ·exact blk_far (k5.blk (k45.blk hv0 trivial) (far _ (by omega))) (p:=⟨w.heap.size+1,3,none⟩) (by simp) _
      ·exact(blk_set hv5 3 _).trans (by simp)
      ·rw [hcs]
       exact own_near hown5 ((Keep.refl (fun b=>w.heap.size+2≤b) w5).setCell (p:=⟨w.heap.size+1,3,none⟩) (.inr (by simp)) _)
theorem worded_bin(k:Int)(ns:List (List UInt8))(hmax:ns.length≤1000)(w:World)(d:Nat)(cs:Array Value)(hcs:∀j (hj:j<ns.length),∃u,cs[j]? =some u∧SlB w u ns[j])(hd:w.heap[d]? =some (.cells cs 27 (0,0))):
 Calls Tryz.prog 177 #[.int .i64 k,.slice (some ⟨d,0,none⟩) ns.length ns.length,.func (.func 178) #[] #[]] w fun e w'=>∃sk,e=.returned (.agg #[.int .i64 23,.int .u64 0,.string ⟨#[]⟩,sk,.int .i64 k,.slice none 0 0])∧New w w'∧
  w'.ownsRow (w.heap.size+2) 78 6 sk ns.length (plainCells k (ns.map fun x=>(0,x))):=by
 obtain⟨n,hn⟩:∃n,n=ns.length:=⟨_,rfl⟩
 rw [←hn]at hmax ⊢
 have N:=Lib.hid hn
 have HD:=Lib.hid hd
 have HCS:=Lib.hid hcs
 clear hn hd hcs
 go_enter Tryz.func177,Tryz.ntmps177
 go_wp2_with fail
 go_loopg [14] n (fun m s14 wr=>∃(j:Nat) (sk:Value),j+m=n∧s14=.int .i64 (j:Int)∧New w wr∧wr.heap[w.heap.size]? =some (.cells #[.int .i64 0,.int .u64 0,.string ⟨#[]⟩,.slice none 0 0,.int .i64 0,.slice none 0 0] 78 (0,0))∧wr.heap[w.heap.size+1]? =some (.cells #[.int .i64 23,.int .u64 0,.string ⟨#[]⟩,sk,.int .i64 k,.slice none 0 0] 78 (0,0))∧wr.ownsRow (w.heap.size+2) 78 6 sk j (plainCells k ((ns.take j).map fun x=>(0,x))))
 case atStart=>
  refine⟨0,.slice none 0 0,by omega,rfl,((Keep.refl _ _).alloc _).alloc _,blk_alloc (blk_new w _) _,?_,rfl,.inl ⟨rfl,rfl⟩⟩
  simpa using blk_new (w.alloc (.cells #[.int .i64 0,.int .u64 0,.string ⟨#[]⟩,.slice none 0 0,.int .i64 0,.slice none 0 0] 78)) (.cells #[.int .i64 23,.int .u64 0,.string ⟨#[]⟩,.slice none 0 0,.int .i64 k,.slice none 0 0] 78)
 case round=>
  obtain⟨j,sk,hj,rfl,kr,hv0,hv,hown⟩:=hrel
  cases gk with
  | zero=>
    obtain rfl:j=n:=by omega
    have hsh:=own_shape hown
    obtain⟨A,cc,rfl⟩:=hsh
    have c0:=(blk_cell hv 0).trans rfl
    have e0:=(blk_cell hv0 0).trans rfl
    have f0:=blk_free hv0 0
    have c1:=(blk_cell hv 1).trans rfl
    have e1:=(blk_cell hv0 1).trans rfl
    have f1:=blk_free hv0 1
    have c2:=(blk_cell hv 2).trans rfl
    have e2:=(blk_cell hv0 2).trans rfl
    have f2:=blk_free hv0 2
    have c3:=(blk_cell hv 3).trans rfl
    have e3:=(blk_cell hv0 3).trans rfl
    have f3:=blk_free hv0 3
    have c4:=(blk_cell hv 4).trans rfl
    have e4:=(blk_cell hv0 4).trans rfl
    have f4:=blk_free hv0 4
    have c5:=(blk_cell hv 5).trans rfl
    have e5:=(blk_cell hv0 5).trans rfl
    have f5:=blk_free hv0 5
    have hown':=own_near hown ((((((((Keep.refl (fun b=>w.heap.size+2≤b) wr).setCell (p:=⟨w.heap.size,0,none⟩) (.inr (by simp)) (.int .i64 23)).setCell (p:=⟨w.heap.size,1,none⟩) (.inr (by simp)) (.int .u64 0)).setCell (p:=⟨w.heap.size,2,none⟩) (.inr (by simp)) (.string ⟨#[]⟩)).setCell (p:=⟨w.heap.size,3,none⟩) (.inr (by simp)) (.slice A j cc)).setCell (p:=⟨w.heap.size,4,none⟩) (.inr (by simp)) (.int .i64 k)).setCell (p:=⟨w.heap.size,5,none⟩) (.inr (by simp)) (.slice none 0 0)))
    have HO:=Lib.hid hown'
    clear hv hv0 hown hown'
    go_wp2
    refine bodyPost_ret (v:=.agg #[.int .i64 23,.int .u64 0,.string ⟨#[]⟩,.slice A j cc,.int .i64 k,.slice none 0 0]) (by simp [results,Tryz.results177,go_sem,e0,e1,e2,e3,e4,e5]) rfl ⟨_,rfl,?_,?_⟩
    ·repeat (refine Keep.setCell ?_ (Or.inl (b:=¬True) (Nat.le_refl _)) _)
     exact kr
    ·have:=HO.out
     rw [N.out,List.take_length]at this
     rw [N.out]
     exact this
  | succ m=>
    have hjn:j<n:=by omega
    have tj:decide ((j:Int)<n)=true:=by simpa using hjn
    have e4:(j:Int)<n:=by omega
    have hjx:j<ns.length:=by rw [←N.out];exact hjn
    obtain⟨x,hx⟩:∃x,x=ns[j]'hjx:=⟨_,rfl⟩
    obtain⟨u,hu,hsl⟩:=HCS.out j hjx
    rw [←hx]at hsl
    have HSL:=Lib.hid hsl
    obtain⟨A2,l2,rfl⟩:∃A2 l2,u=.slice A2 x.length l2:=by
     obtain⟨A2,l2,rfl,_⟩:=hsl
     exact⟨A2,l2,rfl⟩
    clear hsl
    have hcx:wr.cell? ⟨d,j,none⟩=some (.slice A2 x.length l2):=by
     rw [blk_cell (kr.blk HD.out trivial)]
     exact hu
    have c3:wr.cell? ⟨w.heap.size+1,3,none⟩=some sk:=(blk_cell hv 3).trans rfl
    have f3:=blk_free hv 3
    have HX:=Lib.hid hx
    clear hx
    obtain⟨A,cc,rfl⟩:=own_shape hown
    have hv':New wr wr.drew:=(Keep.refl _ wr).drew
    have hsz:=lt_blk hv
    go_wp2_with fail
    go_region_law
     (first | (go_simp;go_at_call 178;refine(lit178 _ x _ (HSL.out.new (kr.trans hv'))).mono ?_;rintro e w4 ⟨rfl,k4⟩;have c34:=(hv'.trans k4).cell c3 trivial;have c35:=cell_alloc c34 (.cells #[.int .i64 k,.int .u64 0,.string ⟨x.toArray⟩,.slice none 0 0,.int .i64 0,.slice none 0 0] 78);have k45:New wr (w4.alloc (.cells #[.int .i64 k,.int .u64 0,.string ⟨x.toArray⟩,.slice none 0 0,.int .i64 0,.slice none 0 0] 78)):=((hv'.trans k4).alloc _);obtain⟨g5,c5,w5,hap,hown5,k5⟩:=append_val (w4.alloc (.cells #[.int .i64 k,.int .u64 0,.string ⟨x.toArray⟩,.slice none 0 0,.int .i64 0,.slice none 0 0] 78)) (w.heap.size+2) (.slice A j cc) j _ (own_keep hown k45) w4.heap.size 1 [.int .i64 k,.int .u64 0,.string ⟨x.toArray⟩,.slice none 0 0,.int .i64 0,.slice none 0 0] rfl (blk_new _ _) (by simp [Value.oneCell']) (by omega) (by have:=k45.size;omega);have far:=own_far hown;have hv5:=k5.blk (k45.blk hv trivial) (far _ (by omega));have f5:=blk_free hv5 3;have c5':w5.cell? ⟨w.heap.size+1,3,none⟩=some (.slice A j cc):=(blk_cell hv5 3).trans rfl) | (refine step_append_eq hap (by rfl) _ _ (by rfl) (by rfl) (by rfl) ?_))
    all_goals
     go_wp2
     go_roundg m
     case measure=>omega
     case rel=>
      have hl5:=lt_blk hv5
      have hcs:plainCells k ((ns.take (j+1)).map fun x=>(0,x))=plainCells k ((ns.take j).map fun x=>(0,x))++[.int .i64 k,.int .u64 0,.string ⟨x.toArray⟩,.slice none 0 0,.int .i64 0,.slice none 0 0]:=by
       rw [←List.take_append_getElem hjx,←HX.out]
       simp [plainCells]
      refine⟨j+1,.slice (some ⟨g5,0,none⟩) (j+1) c5,by omega,congrArg _ (by omega),((kr.trans k45).then k5 (fun i hi _=>far i (by omega))).setCell (p:=⟨w.heap.size+1,3,none⟩) (Or.inl (b:=¬True) (Nat.le_succ _)) _,?_,?_,?_⟩
      ·exact blk_far (k5.blk (k45.blk hv0 trivial) (far _ (by omega))) (p:=⟨w.heap.size+1,3,none⟩) (by simp) _
      ·exact(blk_set hv5 3 _).trans (by simp)
      ·rw [hcs]
       exact own_near hown5 ((Keep.refl (fun b=>w.heap.size+2≤b) w5).setCell (p:=⟨w.heap.size+1,3,none⟩) (.inr (by simp)) _)
end Go.Proofs.YtfoegolfadhmjaaGreatDoor
namespace Go.Proofs.YtfoegolfadhmjaaGreatDoor
open Go.RowKit Go.WideShapes
theorem lit174(n:Nat)(h:n<18446744073709551616)(w:World):Calls Tryz.prog 174 #[timeV (sgn n)] w fun e w'=>e=.returned (.int .u64 n)∧New w w':=by
 have hu:=u64s h
 have hw:=wrap64_in (n:Int)
 go_enter Tryz.func174,Tryz.ntmps174
 simp only [timeV]
 go_wp2_with fail
 refine(unixMilli_is (sgn n) _ hw.1 hw.2).mono ?_
 rintro e w1 ⟨rfl,k1⟩
 go_wp2
 go_ret
 exact⟨rfl,((Keep.refl _ w).alloc _).trans k1⟩
theorem lit176(t:List UInt8)(h:t.length=16)(w:World):Calls Tryz.prog 176 #[uuidV t] w fun e w'=>e=.returned (.string ⟨t.toArray⟩)∧New w w':=by
 obtain⟨a0,a1,a2,a3,a4,a5,a6,a7,a8,a9,a10,a11,a12,a13,a14,a15,rfl⟩:=sixteen_of h
 simp only [uuidV,List.map_cons,List.map_nil]
 have hc:=conv_cells (w.alloc (.cells #[.int .u8 a0.toNat,.int .u8 a1.toNat,.int .u8 a2.toNat,.int .u8 a3.toNat,.int .u8 a4.toNat,.int .u8 a5.toNat,.int .u8 a6.toNat,.int .u8 a7.toNat,.int .u8 a8.toNat,.int .u8 a9.toNat,.int .u8 a10.toNat,.int .u8 a11.toNat,.int .u8 a12.toNat,.int .u8 a13.toNat,.int .u8 a14.toNat,.int .u8 a15.toNat] 309)) w.heap.size 0 16 [a0,a1,a2,a3,a4,a5,a6,a7,a8,a9,a10,a11,a12,a13,a14,a15] (fun j hj=>by
  have hb:=blk_new w (.cells #[.int .u8 a0.toNat,.int .u8 a1.toNat,.int .u8 a2.toNat,.int .u8 a3.toNat,.int .u8 a4.toNat,.int .u8 a5.toNat,.int .u8 a6.toNat,.int .u8 a7.toNat,.int .u8 a8.toNat,.int .u8 a9.toNat,.int .u8 a10.toNat,.int .u8 a11.toNat,.int .u8 a12.toNat,.int .u8 a13.toNat,.int .u8 a14.toNat,.int .u8 a15.toNat] 309)
  rw [blk_cell hb]
  match j,hj with
  | 0,_=>rfl
  | 1,_=>rfl
  | 2,_=>rfl
  | 3,_=>rfl
  | 4,_=>rfl
  | 5,_=>rfl
  | 6,_=>rfl
  | 7,_=>rfl
  | 8,_=>rfl
  | 9,_=>rfl
  | 10,_=>rfl
  | 11,_=>rfl
  | 12,_=>rfl
  | 13,_=>rfl
  | 14,_=>rfl
  | 15,_=>rfl
  | n+16,h=>simp at h;omega)
 simp only [List.length_cons,List.length_nil]at hc
 go_enter Tryz.func176,Tryz.ntmps176
 go_wp2
 go_ret
 exact⟨rfl,(Keep.refl _ w).alloc _⟩
theorem numbered_time(k:Int)(ns:List Nat)(hns:∀x∈ns,x<18446744073709551616)(hmax:ns.length≤1000)(d:Nat)(w:World)(hd:w.heap[d]? =some (.cells (ns.map fun (x:Nat)=>timeC (sgn x)).flatten.toArray 228 (0,0))):
 Calls Tryz.prog 173 #[.int .i64 k,.slice (some ⟨d,0,none⟩) ns.length ns.length,.func (.func 174) #[] #[]] w fun e w'=>∃sk,e=.returned (.agg #[.int .i64 23,.int .u64 0,.string ⟨#[]⟩,sk,.int .i64 k,.slice none 0 0])∧New w w'∧
  w'.ownsRow (w.heap.size+2) 78 6 sk ns.length (plainCells k (ns.map fun x=>(x,[]))):=by
 obtain⟨n,hn⟩:∃n,n=ns.length:=⟨_,rfl⟩
 rw [←hn]at hmax ⊢
 have N:=Lib.hid hn
 have HD:=Lib.hid hd
 have HNS:=Lib.hid hns
 clear hn hd hns
 go_enter Tryz.func173,Tryz.ntmps173
 go_wp2_with fail
 go_loopg [14] n (fun m s14 wr=>∃(j:Nat) (sk:Value),j+m=n∧s14=.int .i64 (j:Int)∧New w wr∧wr.heap[w.heap.size]? =some (.cells #[.int .i64 0,.int .u64 0,.string ⟨#[]⟩,.slice none 0 0,.int .i64 0,.slice none 0 0] 78 (0,0))∧wr.heap[w.heap.size+1]? =some (.cells #[.int .i64 23,.int .u64 0,.string ⟨#[]⟩,sk,.int .i64 k,.slice none 0 0] 78 (0,0))∧wr.ownsRow (w.heap.size+2) 78 6 sk j (plainCells k ((ns.take j).map fun x=>(x,[]))))
 case atStart=>
  refine⟨0,.slice none 0 0,by omega,rfl,((Keep.refl _ _).alloc _).alloc _,blk_alloc (blk_new w _) _,?_,rfl,.inl ⟨rfl,rfl⟩⟩
  simpa using blk_new (w.alloc (.cells #[.int .i64 0,.int .u64 0,.string ⟨#[]⟩,.slice none 0 0,.int .i64 0,.slice none 0 0] 78)) (.cells #[.int .i64 23,.int .u64 0,.string ⟨#[]⟩,.slice none 0 0,.int .i64 k,.slice none 0 0] 78)
 case round=>
  obtain⟨j,sk,hj,rfl,kr,hv0,hv,hown⟩:=hrel
  cases gk with
  | zero=>
    obtain rfl:j=n:=by omega
    have hsh:=own_shape hown
    obtain⟨A,cc,rfl⟩:=hsh
    have c0:=(blk_cell hv 0).trans rfl
    have e0:=(blk_cell hv0 0).trans rfl
    have f0:=blk_free hv0 0
    have c1:=(blk_cell hv 1).trans rfl
    have e1:=(blk_cell hv0 1).trans rfl
    have f1:=blk_free hv0 1
    have c2:=(blk_cell hv 2).trans rfl
    have e2:=(blk_cell hv0 2).trans rfl
    have f2:=blk_free hv0 2
    have c3:=(blk_cell hv 3).trans rfl
    have e3:=(blk_cell hv0 3).trans rfl
    have f3:=blk_free hv0 3
    have c4:=(blk_cell hv 4).trans rfl
    have e4:=(blk_cell hv0 4).trans rfl
    have f4:=blk_free hv0 4
    have c5:=(blk_cell hv 5).trans rfl
    have e5:=(blk_cell hv0 5).trans rfl
    have f5:=blk_free hv0 5
    have hown':=own_near hown ((((((((Keep.refl (fun b=>w.heap.size+2≤b) wr).setCell (p:=⟨w.heap.size,0,none⟩) (.inr (by simp)) (.int .i64 23)).setCell (p:=⟨w.heap.size,1,none⟩) (.inr (by simp)) (.int .u64 0)).setCell (p:=⟨w.heap.size,2,none⟩) (.inr (by simp)) (.string ⟨#[]⟩)).setCell (p:=⟨w.heap.size,3,none⟩) (.inr (by simp)) (.slice A j cc)).setCell (p:=⟨w.heap.size,4,none⟩) (.inr (by simp)) (.int .i64 k)).setCell (p:=⟨w.heap.size,5,none⟩) (.inr (by simp)) (.slice none 0 0)))
    have HO:=Lib.hid hown'
    clear hv hv0 hown hown'
    go_wp2
    refine bodyPost_ret (v:=.agg #[.int .i64 23,.int .u64 0,.string ⟨#[]⟩,.slice A j cc,.int .i64 k,.slice none 0 0]) (by simp [results,Tryz.results173,go_sem,e0,e1,e2,e3,e4,e5]) rfl ⟨_,rfl,?_,?_⟩
    ·repeat (refine Keep.setCell ?_ (Or.inl (b:=¬True) (Nat.le_refl _)) _)
     exact kr
    ·have:=HO.out
     rw [N.out,List.take_length]at this
     rw [N.out]
     exact this
  | succ m=>
    have hjn:j<n:=by omega
    have tj:decide ((j:Int)<n)=true:=by simpa using hjn
    have e4:(j:Int)<n:=by omega
    have hjx:j<ns.length:=by rw [←N.out];exact hjn
    obtain⟨x,hx⟩:∃x,x=ns[j]'hjx:=⟨_,rfl⟩
    have hfl:=flatF (F:=fun x:Nat=>timeC (sgn x)) (sz:=2) (fun _=>rfl) ns
    have hcx0:wr.cell? ⟨d,j*2,none⟩=some (.int .i64 (sgn x/1000)):=by
     rw [blk_cell (kr.blk HD.out trivial),hx]
     have:=hfl.2 j hjx 0 (by omega)
     rw [List.getElem?_toArray]
     exact this
    have hcx1:wr.cell? ⟨d,j*2+1,none⟩=some (.int .i64 (sgn x % 1000*1000000)):=by
     rw [blk_cell (kr.blk HD.out trivial),hx]
     have:=hfl.2 j hjx 1 (by omega)
     rw [List.getElem?_toArray]
     exact this
    clear hfl
    have c3:wr.cell? ⟨w.heap.size+1,3,none⟩=some sk:=(blk_cell hv 3).trans rfl
    have f3:=blk_free hv 3
    have hx2:=HNS.out _ (List.getElem_mem hjx)
    rw [←hx]at hx2
    have HX:=Lib.hid hx
    clear hx
    obtain⟨A,cc,rfl⟩:=own_shape hown
    have hv':New wr (wr.alloc (.cells #[.int .i64 (sgn x/1000),.int .i64 (sgn x % 1000*1000000)] 228)).drew:=((Keep.refl _ wr).alloc _).drew
    have c3a:=cell_alloc c3 (.cells #[.int .i64 (sgn x/1000),.int .i64 (sgn x % 1000*1000000)] 228)
    have hsz:=lt_blk hv
    go_wp2_with fail
    go_region_law
     (first | (go_simp;go_at_call 174;refine(lit174 x hx2 _).mono ?_;rintro e w4 ⟨rfl,k4⟩;have c34:=(hv'.trans k4).cell c3 trivial;have c35:=cell_alloc c34 (.cells #[.int .i64 k,.int .u64 (x:Int),.string ⟨#[]⟩,.slice none 0 0,.int .i64 0,.slice none 0 0] 78);have k45:New wr (w4.alloc (.cells #[.int .i64 k,.int .u64 (x:Int),.string ⟨#[]⟩,.slice none 0 0,.int .i64 0,.slice none 0 0] 78)):=((hv'.trans k4).alloc _);obtain⟨g5,c5,w5,hap,hown5,k5⟩:=append_val (w4.alloc (.cells #[.int .i64 k,.int .u64 (x:Int),.string ⟨#[]⟩,.slice none 0 0,.int .i64 0,.slice none 0 0] 78)) (w.heap.size+2) (.slice A j cc) j _ (own_keep hown k45) w4.heap.size 1 [.int .i64 k,.int .u64 (x:Int),.string ⟨#[]⟩,.slice none 0 0,.int .i64 0,.slice none 0 0] rfl (blk_new _ _) (by simp [Value.oneCell']) (by omega) (by have:=k45.size;omega);have far:=own_far hown;have hv5:=k5.blk (k45.blk hv trivial) (far _ (by omega));have f5:=blk_free hv5 3;have c5':w5.cell? ⟨w.heap.size+1,3,none⟩=some (.slice A j cc):=(blk_cell hv5 3).trans rfl) | (refine step_append_eq hap (by rfl) _ _ (by rfl) (by rfl) (by rfl) ?_))
    all_goals
     go_wp2
     go_roundg m
     case measure=>omega
     case rel=>
      have hl5:=lt_blk hv5
      have hcs:plainCells k ((ns.take (j+1)).map fun x=>(x,[]))=plainCells k ((ns.take j).map fun x=>(x,[]))++[.int .i64 k,.int .u64 (x:Int),.string ⟨#[]⟩,.slice none 0 0,.int .i64 0,.slice none 0 0]:=by
       rw [←List.take_append_getElem hjx,←HX.out]
       simp [plainCells]
      refine⟨j+1,.slice (some ⟨g5,0,none⟩) (j+1) c5,by omega,congrArg _ (by omega),((kr.trans k45).then k5 (fun i hi _=>far i (by omega))).setCell (p:=⟨w.heap.size+1,3,none⟩) (Or.inl (b:=¬True) (Nat.le_succ _)) _,?_,?_,?_⟩
      ·exact blk_far (k5.blk (k45.blk hv0 trivial) (far _ (by omega))) (p:=⟨w.heap.size+1,3,none⟩) (by simp) _
      ·exact(blk_set hv5 3 _).trans (by simp)
      ·rw [hcs]
       exact own_near hown5 ((Keep.refl (fun b=>w.heap.size+2≤b) w5).setCell (p:=⟨w.heap.size+1,3,none⟩) (.inr (by simp)) _)
theorem worded_uuid(k:Int)(ns:List (List UInt8))(hns:∀x∈ns,x.length=16)(hmax:ns.length≤1000)(d:Nat)(w:World)(hd:w.heap[d]? =some (.cells (ns.map uuidC).flatten.toArray 309 (0,0))):
 Calls Tryz.prog 175 #[.int .i64 k,.slice (some ⟨d,0,none⟩) ns.length ns.length,.func (.func 176) #[] #[]] w fun e w'=>∃sk,e=.returned (.agg #[.int .i64 23,.int .u64 0,.string ⟨#[]⟩,sk,.int .i64 k,.slice none 0 0])∧New w w'∧
  w'.ownsRow (w.heap.size+2) 78 6 sk ns.length (plainCells k (ns.map fun x=>(0,x))):=by
 obtain⟨n,hn⟩:∃n,n=ns.length:=⟨_,rfl⟩
 rw [←hn]at hmax ⊢
 have N:=Lib.hid hn
 have HD:=Lib.hid hd
 have HNS:=Lib.hid hns
 clear hn hd hns
 go_enter Tryz.func175,Tryz.ntmps175
 go_wp2_with fail
 go_loopg [14] n (fun m s14 wr=>∃(j:Nat) (sk:Value),j+m=n∧s14=.int .i64 (j:Int)∧New w wr∧wr.heap[w.heap.size]? =some (.cells #[.int .i64 0,.int .u64 0,.string ⟨#[]⟩,.slice none 0 0,.int .i64 0,.slice none 0 0] 78 (0,0))∧wr.heap[w.heap.size+1]? =some (.cells #[.int .i64 23,.int .u64 0,.string ⟨#[]⟩,sk,.int .i64 k,.slice none 0 0] 78 (0,0))∧wr.ownsRow (w.heap.size+2) 78 6 sk j (plainCells k ((ns.take j).map fun x=>(0,x))))
 case atStart=>
  refine⟨0,.slice none 0 0,by omega,rfl,((Keep.refl _ _).alloc _).alloc _,blk_alloc (blk_new w _) _,?_,rfl,.inl ⟨rfl,rfl⟩⟩
  simpa using blk_new (w.alloc (.cells #[.int .i64 0,.int .u64 0,.string ⟨#[]⟩,.slice none 0 0,.int .i64 0,.slice none 0 0] 78)) (.cells #[.int .i64 23,.int .u64 0,.string ⟨#[]⟩,.slice none 0 0,.int .i64 k,.slice none 0 0] 78)
 case round=>
  obtain⟨j,sk,hj,rfl,kr,hv0,hv,hown⟩:=hrel
  cases gk with
  | zero=>
    obtain rfl:j=n:=by omega
    have hsh:=own_shape hown
    obtain⟨A,cc,rfl⟩:=hsh
    have c0:=(blk_cell hv 0).trans rfl
    have e0:=(blk_cell hv0 0).trans rfl
    have f0:=blk_free hv0 0
    have c1:=(blk_cell hv 1).trans rfl
    have e1:=(blk_cell hv0 1).trans rfl
    have f1:=blk_free hv0 1
    have c2:=(blk_cell hv 2).trans rfl
    have e2:=(blk_cell hv0 2).trans rfl
    have f2:=blk_free hv0 2
    have c3:=(blk_cell hv 3).trans rfl
    have e3:=(blk_cell hv0 3).trans rfl
    have f3:=blk_free hv0 3
    have c4:=(blk_cell hv 4).trans rfl
    have e4:=(blk_cell hv0 4).trans rfl
    have f4:=blk_free hv0 4
    have c5:=(blk_cell hv 5).trans rfl
    have e5:=(blk_cell hv0 5).trans rfl
    have f5:=blk_free hv0 5
    have hown':=own_near hown ((((((((Keep.refl (fun b=>w.heap.size+2≤b) wr).setCell (p:=⟨w.heap.size,0,none⟩) (.inr (by simp)) (.int .i64 23)).setCell (p:=⟨w.heap.size,1,none⟩) (.inr (by simp)) (.int .u64 0)).setCell (p:=⟨w.heap.size,2,none⟩) (.inr (by simp)) (.string ⟨#[]⟩)).setCell (p:=⟨w.heap.size,3,none⟩) (.inr (by simp)) (.slice A j cc)).setCell (p:=⟨w.heap.size,4,none⟩) (.inr (by simp)) (.int .i64 k)).setCell (p:=⟨w.heap.size,5,none⟩) (.inr (by simp)) (.slice none 0 0)))
    have HO:=Lib.hid hown'
    clear hv hv0 hown hown'
    go_wp2
    refine bodyPost_ret (v:=.agg #[.int .i64 23,.int .u64 0,.string ⟨#[]⟩,.slice A j cc,.int .i64 k,.slice none 0 0]) (by simp [results,Tryz.results175,go_sem,e0,e1,e2,e3,e4,e5]) rfl ⟨_,rfl,?_,?_⟩
    ·repeat (refine Keep.setCell ?_ (Or.inl (b:=¬True) (Nat.le_refl _)) _)
     exact kr
    ·have:=HO.out
     rw [N.out,List.take_length]at this
     rw [N.out]
     exact this
  | succ m=>
    have hjn:j<n:=by omega
    have tj:decide ((j:Int)<n)=true:=by simpa using hjn
    have e4:(j:Int)<n:=by omega
    have hjx:j<ns.length:=by rw [←N.out];exact hjn
    obtain⟨x,hx⟩:∃x,x=ns[j]'hjx:=⟨_,rfl⟩
    have hfl:=flatF' (F:=uuidC) (sz:=16) ns (fun y hy=>by simp [uuidC,HNS.out y hy])
    have hel:∀q,q<16→wr.cell? ⟨d,j*16+q,none⟩=(uuidC x)[q]? :=fun q hq=>by
     rw [blk_cell (kr.blk HD.out trivial),hx]
     have:=hfl.2 j hjx q hq
     rw [List.getElem?_toArray]
     exact this
    clear hfl
    have c3:wr.cell? ⟨w.heap.size+1,3,none⟩=some sk:=(blk_cell hv 3).trans rfl
    have f3:=blk_free hv 3
    have hx2:=HNS.out _ (List.getElem_mem hjx)
    rw [←hx]at hx2
    obtain⟨a0,a1,a2,a3,a4,a5,a6,a7,a8,a9,a10,a11,a12,a13,a14,a15,hxa⟩:=sixteen_of hx2
    have HXA:=Lib.hid hxa
    have hcx0:wr.cell? ⟨d,j*16,none⟩=some (.int .u8 a0.toNat):=by
     have:=hel 0 (by omega)
     rw [hxa]at this
     exact this
    have hcx1:wr.cell? ⟨d,j*16+1,none⟩=some (.int .u8 a1.toNat):=by
     have:=hel 1 (by omega)
     rw [hxa]at this
     exact this
    have hcx2:wr.cell? ⟨d,j*16+2,none⟩=some (.int .u8 a2.toNat):=by
     have:=hel 2 (by omega)
     rw [hxa]at this
     exact this
    have hcx3:wr.cell? ⟨d,j*16+3,none⟩=some (.int .u8 a3.toNat):=by
     have:=hel 3 (by omega)
     rw [hxa]at this
     exact this
    have hcx4:wr.cell? ⟨d,j*16+4,none⟩=some (.int .u8 a4.toNat):=by
     have:=hel 4 (by omega)
     rw [hxa]at this
     exact this
    have hcx5:wr.cell? ⟨d,j*16+5,none⟩=some (.int .u8 a5.toNat):=by
     have:=hel 5 (by omega)
     rw [hxa]at this
     exact this
    have hcx6:wr.cell? ⟨d,j*16+6,none⟩=some (.int .u8 a6.toNat):=by
     have:=hel 6 (by omega)
     rw [hxa]at this
     exact this
    have hcx7:wr.cell? ⟨d,j*16+7,none⟩=some (.int .u8 a7.toNat):=by
     have:=hel 7 (by omega)
     rw [hxa]at this
     exact this
    have hcx8:wr.cell? ⟨d,j*16+8,none⟩=some (.int .u8 a8.toNat):=by
     have:=hel 8 (by omega)
     rw [hxa]at this
     exact this
    have hcx9:wr.cell? ⟨d,j*16+9,none⟩=some (.int .u8 a9.toNat):=by
     have:=hel 9 (by omega)
     rw [hxa]at this
     exact this
    have hcx10:wr.cell? ⟨d,j*16+10,none⟩=some (.int .u8 a10.toNat):=by
     have:=hel 10 (by omega)
     rw [hxa]at this
     exact this
    have hcx11:wr.cell? ⟨d,j*16+11,none⟩=some (.int .u8 a11.toNat):=by
     have:=hel 11 (by omega)
     rw [hxa]at this
     exact this
    have hcx12:wr.cell? ⟨d,j*16+12,none⟩=some (.int .u8 a12.toNat):=by
     have:=hel 12 (by omega)
     rw [hxa]at this
     exact this
    have hcx13:wr.cell? ⟨d,j*16+13,none⟩=some (.int .u8 a13.toNat):=by
     have:=hel 13 (by omega)
     rw [hxa]at this
     exact this
    have hcx14:wr.cell? ⟨d,j*16+14,none⟩=some (.int .u8 a14.toNat):=by
     have:=hel 14 (by omega)
     rw [hxa]at this
     exact this
    have hcx15:wr.cell? ⟨d,j*16+15,none⟩=some (.int .u8 a15.toNat):=by
     have:=hel 15 (by omega)
     rw [hxa]at this
     exact this
    have HXU:Hid (uuidV x=.agg #[.int .u8 a0.toNat,.int .u8 a1.toNat,.int .u8 a2.toNat,.int .u8 a3.toNat,.int .u8 a4.toNat,.int .u8 a5.toNat,.int .u8 a6.toNat,.int .u8 a7.toNat,.int .u8 a8.toNat,.int .u8 a9.toNat,.int .u8 a10.toNat,.int .u8 a11.toNat,.int .u8 a12.toNat,.int .u8 a13.toNat,.int .u8 a14.toNat,.int .u8 a15.toNat]):=Lib.hid (by rw [hxa];rfl)
    clear hel hxa
    have HX:=Lib.hid hx
    clear hx
    obtain⟨A,cc,rfl⟩:=own_shape hown
    have hv':New wr (wr.alloc (.cells #[.int .u8 a0.toNat,.int .u8 a1.toNat,.int .u8 a2.toNat,.int .u8 a3.toNat,.int .u8 a4.toNat,.int .u8 a5.toNat,.int .u8 a6.toNat,.int .u8 a7.toNat,.int .u8 a8.toNat,.int .u8 a9.toNat,.int .u8 a10.toNat,.int .u8 a11.toNat,.int .u8 a12.toNat,.int .u8 a13.toNat,.int .u8 a14.toNat,.int .u8 a15.toNat] 309)).drew:=((Keep.refl _ wr).alloc _).drew
    have c3a:=cell_alloc c3 (.cells #[.int .u8 a0.toNat,.int .u8 a1.toNat,.int .u8 a2.toNat,.int .u8 a3.toNat,.int .u8 a4.toNat,.int .u8 a5.toNat,.int .u8 a6.toNat,.int .u8 a7.toNat,.int .u8 a8.toNat,.int .u8 a9.toNat,.int .u8 a10.toNat,.int .u8 a11.toNat,.int .u8 a12.toNat,.int .u8 a13.toNat,.int .u8 a14.toNat,.int .u8 a15.toNat] 309)
    have hsz:=lt_blk hv
    go_wp2_with fail
    go_region_law
     (first | (go_simp;go_at_call 176;refine(show Calls Tryz.prog 176 #[.agg #[.int .u8 a0.toNat,.int .u8 a1.toNat,.int .u8 a2.toNat,.int .u8 a3.toNat,.int .u8 a4.toNat,.int .u8 a5.toNat,.int .u8 a6.toNat,.int .u8 a7.toNat,.int .u8 a8.toNat,.int .u8 a9.toNat,.int .u8 a10.toNat,.int .u8 a11.toNat,.int .u8 a12.toNat,.int .u8 a13.toNat,.int .u8 a14.toNat,.int .u8 a15.toNat]] ((wr.alloc (.cells #[.int .u8 a0.toNat,.int .u8 a1.toNat,.int .u8 a2.toNat,.int .u8 a3.toNat,.int .u8 a4.toNat,.int .u8 a5.toNat,.int .u8 a6.toNat,.int .u8 a7.toNat,.int .u8 a8.toNat,.int .u8 a9.toNat,.int .u8 a10.toNat,.int .u8 a11.toNat,.int .u8 a12.toNat,.int .u8 a13.toNat,.int .u8 a14.toNat,.int .u8 a15.toNat] 309)).drew) (fun e w9=>e=.returned (.string ⟨x.toArray⟩)∧New ((wr.alloc (.cells #[.int .u8 a0.toNat,.int .u8 a1.toNat,.int .u8 a2.toNat,.int .u8 a3.toNat,.int .u8 a4.toNat,.int .u8 a5.toNat,.int .u8 a6.toNat,.int .u8 a7.toNat,.int .u8 a8.toNat,.int .u8 a9.toNat,.int .u8 a10.toNat,.int .u8 a11.toNat,.int .u8 a12.toNat,.int .u8 a13.toNat,.int .u8 a14.toNat,.int .u8 a15.toNat] 309)).drew) w9) from by have:=lit176 x hx2 ((wr.alloc (.cells #[.int .u8 a0.toNat,.int .u8 a1.toNat,.int .u8 a2.toNat,.int .u8 a3.toNat,.int .u8 a4.toNat,.int .u8 a5.toNat,.int .u8 a6.toNat,.int .u8 a7.toNat,.int .u8 a8.toNat,.int .u8 a9.toNat,.int .u8 a10.toNat,.int .u8 a11.toNat,.int .u8 a12.toNat,.int .u8 a13.toNat,.int .u8 a14.toNat,.int .u8 a15.toNat] 309)).drew);rw [HXU.out]at this;exact this).mono ?_;rintro e w4 ⟨rfl,k4⟩;have c34:=(hv'.trans k4).cell c3 trivial;have c35:=cell_alloc c34 (.cells #[.int .i64 k,.int .u64 0,.string ⟨x.toArray⟩,.slice none 0 0,.int .i64 0,.slice none 0 0] 78);have k45:New wr (w4.alloc (.cells #[.int .i64 k,.int .u64 0,.string ⟨x.toArray⟩,.slice none 0 0,.int .i64 0,.slice none 0 0] 78)):=((hv'.trans k4).alloc _);obtain⟨g5,c5,w5,hap,hown5,k5⟩:=append_val (w4.alloc (.cells #[.int .i64 k,.int .u64 0,.string ⟨x.toArray⟩,.slice none 0 0,.int .i64 0,.slice none 0 0] 78)) (w.heap.size+2) (.slice A j cc) j _ (own_keep hown k45) w4.heap.size 1 [.int .i64 k,.int .u64 0,.string ⟨x.toArray⟩,.slice none 0 0,.int .i64 0,.slice none 0 0] rfl (blk_new _ _) (by simp [Value.oneCell']) (by omega) (by have:=k45.size;omega);have far:=own_far hown;have hv5:=k5.blk (k45.blk hv trivial) (far _ (by omega));have f5:=blk_free hv5 3;have c5':w5.cell? ⟨w.heap.size+1,3,none⟩=some (.slice A j cc):=(blk_cell hv5 3).trans rfl) | (refine step_append_eq hap (by rfl) _ _ (by rfl) (by rfl) (by rfl) ?_))
    all_goals
     go_wp2
     go_roundg m
     case measure=>omega
     case rel=>
      have hl5:=lt_blk hv5
      have hcs:plainCells k ((ns.take (j+1)).map fun x=>(0,x))=plainCells k ((ns.take j).map fun x=>(0,x))++[.int .i64 k,.int .u64 0,.string ⟨x.toArray⟩,.slice none 0 0,.int .i64 0,.slice none 0 0]:=by
       rw [←List.take_append_getElem hjx,←HX.out]
       simp [plainCells]
      refine⟨j+1,.slice (some ⟨g5,0,none⟩) (j+1) c5,by omega,congrArg _ (by omega),((kr.trans k45).then k5 (fun i hi _=>far i (by omega))).setCell (p:=⟨w.heap.size+1,3,none⟩) (Or.inl (b:=¬True) (Nat.le_succ _)) _,?_,?_,?_⟩
      ·exact blk_far (k5.blk (k45.blk hv0 trivial) (far _ (by omega))) (p:=⟨w.heap.size+1,3,none⟩) (by simp) _
      ·exact(blk_set hv5 3 _).trans (by simp)
      ·rw [hcs]
       exact own_near hown5 ((Keep.refl (fun b=>w.heap.size+2≤b) w5).setCell (p:=⟨w.heap.size+1,3,none⟩) (.inr (by simp)) _)
end Go.Proofs.YtfoegolfadhmjaaGreatDoor
