/- spec.symbols. -/
import Derived.Test.YtfoegolfadhmjaaGreatDoorZ37
set_option linter.all false
set_option maxRecDepth 100000
set_option maxHeartbeats 8000000
namespace Go.Proofs.YtfoegolfadhmjaaGreatDoor
open Go.RowKit Go.WideShapes
theorem append_big(w:World)(base:Nat)(v:Value)(n:Nat)(xs:List Value)(hown:w.ownsRow base 78 6 v n xs)(B c:Nat)(news:List Value)(hl:news.length=6)(hB:w.heap[B]? =some (.cells news.toArray 78 (0,0)))(h1:∀u∈news,u.oneCell'=true)(hn:n≤2147483648)(hbase:base≤w.heap.size):
 ∃g cap w',(Builtin.append_ #[43,43] 43 #[v,.slice (some ⟨B,0,none⟩) 1 c]).run Tryz.prog w=.ok (.slice (some ⟨g,0,none⟩) (n+1) cap) w'∧
  w'.ownsRow base 78 6 (.slice (some ⟨g,0,none⟩) (n+1) cap) (n+1) (xs++news)∧Keep (fun k=>some k≠v.ownBlock) w w':=by
 obtain⟨i0,hi,hz,hs,hb⟩:=info_parts info78
 obtain⟨g,cap,w',hr,h2,h3,_,_⟩:=run_append_lies (P:=Tryz.prog) w 43 43 base 78 i0 _ 6 88 Tryz.underlying43 hi hz hs hb rfl (by omega) v n xs hown ⟨B,0,none⟩ 1 c news (by rw [hl]) (fun j u hj=>by
  have hplain:(⟨B,0,none⟩:Addr).add j=⟨B,0+j,none⟩:=by unfold Addr.add;split<;>simp_all
  rw [hplain,blk_cell hB,Nat.zero_add]
  simpa using hj) h1 (by omega) (by unfold maxLen;omega) (by omega) hbase w.heap.size rfl
 exact⟨g,cap,w',hr,h2,Keep.of_grown h3 (fun k hk=>hk)⟩
def symK(ts:List (List UInt8)):List V:=ts.map fun t=>.mk 20 0 t [] 0 []
def symF(ts:List (List UInt8)):V:=if ts=[]then nul else .mk 23 0 [] (symK ts) 0 []
def kS(ts:List (List UInt8)):Int:=if ts=[]then 0 else 23
theorem symF_eq(ts:List (List UInt8)):symF ts=.mk (kS ts) 0 [] (symK ts) 0 []:=by
 unfold symF kS nul
 split
 ·rename_i e;rw [e];rfl
 ·rfl
def symC(ts:List (List UInt8)):List Value:=plainCells 20 (ts.map fun t=>(0,t))
theorem symC_mem(w:World)(ts:List (List UInt8)):Mem w (symK ts) (symC ts):=by
 have h:=plain_mem w 20 (ts.map fun t=>(0,t)) (fun x hx=>by obtain⟨t,_,rfl⟩:=List.mem_map.1 hx;show 0<_;omega)
 have e:plainKids 20 (ts.map fun t=>(0,t))=symK ts:=by simp [plainKids,symK]
 rw [e]at h
 exact h
theorem symbols_is(ts:List (List UInt8))(hmax:ts.length≤2147483647)(w:World)(s:Value)(hs:Strs w ts s):
 Calls Tryz.prog 52 #[s] w fun e w'=>∃Ak nk ck,e=.returned (.agg #[.int .i64 (kS ts),.int .u64 0,.string ⟨#[]⟩,.slice Ak nk ck,.int .i64 0,.slice none 0 0,.int .i64 0,.int .u64 0,.string ⟨#[]⟩,.slice none 0 0,.int .i64 0,.slice none 0 0])∧New w w'∧VM w' (symF ts) (.agg #[.int .i64 (kS ts),.int .u64 0,.string ⟨#[]⟩,.slice Ak nk ck,.int .i64 0,.slice none 0 0]):=by
 obtain⟨A0,c0,rfl,h1,h2,h3⟩:=hs
 rcases ts with _ | ⟨t,r⟩
 ·have k0:=(Keep.refl (fun _=>True) w).alloc (.cells #[.int .i64 0,.int .u64 0,.string ⟨#[]⟩,.slice none 0 0,.int .i64 0,.slice none 0 0,.int .i64 0,.int .u64 0,.string ⟨#[]⟩,.slice none 0 0,.int .i64 0,.slice none 0 0] 81)
  go_enter Tryz.func52,Tryz.ntmps52
  go_wp2
  refine bodyPost_ret (v:=.agg #[.int .i64 0,.int .u64 0,.string ⟨#[]⟩,.slice none 0 0,.int .i64 0,.slice none 0 0,.int .i64 0,.int .u64 0,.string ⟨#[]⟩,.slice none 0 0,.int .i64 0,.slice none 0 0]) (by simp [results,Tryz.results52,go_sem]) rfl ⟨none,0,0,rfl,k0,VM.mk (n:=0) (t:=[]) (by omega) LM.nil LM.nil⟩
 obtain⟨ts,hts⟩:∃ts,ts=t::r:=⟨_,rfl⟩
 have hne:ts≠[]:=by rw [hts];simp
 rw [←hts]at h1 h3 hmax ⊢
 have hk:kS ts=23:=if_neg hne
 rw [hk]
 obtain⟨d,i,rfl,hat⟩:=h3 hne
 obtain⟨n,hn⟩:∃n,n=ts.length:=⟨_,rfl⟩
 have hn0:0<n:=by rw [hn];exact List.length_pos_iff.2 hne
 rw [←hn]at h1 hmax ⊢
 have tn:((n:Int)==0)=false:=by simp;omega
 have N:=Lib.hid hn
 have HAT:=Lib.hid hat
 have HK:=Lib.hid hk
 clear h3 hat hn hts hne hk
 go_enter Tryz.func52,Tryz.ntmps52
 go_wp2_with fail
 go_loopg [13] n (fun m s13 wr=>∃(j:Nat) (sk:Value),j+m=n∧s13=.int .i64 (j:Int)∧New w wr∧wr.heap[w.heap.size]? =some (.cells #[.int .i64 0,.int .u64 0,.string ⟨#[]⟩,.slice none 0 0,.int .i64 0,.slice none 0 0,.int .i64 0,.int .u64 0,.string ⟨#[]⟩,.slice none 0 0,.int .i64 0,.slice none 0 0] 81 (0,0))∧wr.heap[w.heap.size+1]? =some (.cells #[.int .i64 23,.int .u64 0,.string ⟨#[]⟩,sk,.int .i64 0,.slice none 0 0] 78 (0,0))∧wr.ownsRow (w.heap.size+2) 78 6 sk j (symC (ts.take j)))
 case atStart=>
  refine⟨0,.slice none 0 0,by omega,rfl,((Keep.refl _ _).alloc _).alloc _,blk_alloc (blk_new w _) _,?_,rfl,.inl ⟨rfl,rfl⟩⟩
  simpa using blk_new (w.alloc (.cells #[.int .i64 0,.int .u64 0,.string ⟨#[]⟩,.slice none 0 0,.int .i64 0,.slice none 0 0,.int .i64 0,.int .u64 0,.string ⟨#[]⟩,.slice none 0 0,.int .i64 0,.slice none 0 0] 81)) (.cells #[.int .i64 23,.int .u64 0,.string ⟨#[]⟩,.slice none 0 0,.int .i64 0,.slice none 0 0] 78)
 case round=>
  obtain⟨j,sk,hj,rfl,kr,hR,hv,hown⟩:=hrel
  obtain⟨A,cc,rfl⟩:=own_shape hown
  cases gk with
  | zero=>
    obtain rfl:j=n:=by omega
    have z0:=(blk_cell hR 0).trans rfl
    have Fz0:=blk_free hR 0
    have z1:=(blk_cell hR 1).trans rfl
    have Fz1:=blk_free hR 1
    have z2:=(blk_cell hR 2).trans rfl
    have Fz2:=blk_free hR 2
    have z3:=(blk_cell hR 3).trans rfl
    have Fz3:=blk_free hR 3
    have z4:=(blk_cell hR 4).trans rfl
    have Fz4:=blk_free hR 4
    have z5:=(blk_cell hR 5).trans rfl
    have Fz5:=blk_free hR 5
    have z6:=(blk_cell hR 6).trans rfl
    have Fz6:=blk_free hR 6
    have z7:=(blk_cell hR 7).trans rfl
    have Fz7:=blk_free hR 7
    have z8:=(blk_cell hR 8).trans rfl
    have Fz8:=blk_free hR 8
    have z9:=(blk_cell hR 9).trans rfl
    have Fz9:=blk_free hR 9
    have z10:=(blk_cell hR 10).trans rfl
    have Fz10:=blk_free hR 10
    have z11:=(blk_cell hR 11).trans rfl
    have Fz11:=blk_free hR 11
    have y0:=(blk_cell hv 0).trans rfl
    have y1:=(blk_cell hv 1).trans rfl
    have y2:=(blk_cell hv 2).trans rfl
    have y3:=(blk_cell hv 3).trans rfl
    have y4:=(blk_cell hv 4).trans rfl
    have y5:=(blk_cell hv 5).trans rfl
    have HO:=Lib.hid hown
    clear hv hR hown
    go_wp2
    refine bodyPost_ret (v:=.agg #[.int .i64 23,.int .u64 0,.string ⟨#[]⟩,.slice A j cc,.int .i64 0,.slice none 0 0,.int .i64 0,.int .u64 0,.string ⟨#[]⟩,.slice none 0 0,.int .i64 0,.slice none 0 0]) (by simp [results,Tryz.results52,go_sem,z0,z1,z2,z3,z4,z5,z6,z7,z8,z9,z10,z11]) rfl ⟨A,j,cc,rfl,?_,?_⟩
    ·repeat (refine Keep.setCell ?_ (Or.inl (b:=¬True) (by simp)) _)
     exact kr
    ·rw [symF_eq,HK.out]
     refine VM.mk (n:=0) (t:=[]) (by omega) (LM.own (base:=w.heap.size+2) (cells:=symC ts) ?_ (symC_mem _ ts)) LM.nil
     have:=HO.out
     rw [N.out,List.take_length]at this
     rw [show(symK ts).length=ts.length by simp [symK],N.out]
     refine own_near this ?_
     repeat (refine Keep.setCell ?_ (Or.inr (by simp)) _)
     exact Keep.refl _ _
  | succ m=>
    have hjn:j<n:=by omega
    have tj:decide ((j:Int)<n)=true:=by simpa using hjn
    have e4:(j:Int)<n:=by omega
    have hjx:j<ts.length:=by rw [←N.out];exact hjn
    obtain⟨x,hx⟩:∃x,x=ts[j]'hjx:=⟨_,rfl⟩
    have hcx:wr.cell? ⟨d,i+j,none⟩=some (.string ⟨x.toArray⟩):=by
     rw [hx]
     exact kr.cell (HAT.out j hjx) trivial
    have HX:=Lib.hid hx
    have far:=own_far hown
    have kA:=(Keep.refl (fun _=>True) wr).alloc (.cells #[.int .i64 20,.int .u64 0,.string ⟨x.toArray⟩,.slice none 0 0,.int .i64 0,.slice none 0 0] 78)
    obtain⟨g5,c5,w5,hap,hown5,k5⟩:=append_big (wr.alloc (.cells #[.int .i64 20,.int .u64 0,.string ⟨x.toArray⟩,.slice none 0 0,.int .i64 0,.slice none 0 0] 78)) (w.heap.size+2) (.slice A j cc) j _ (own_keep hown kA) wr.heap.size 1 [.int .i64 20,.int .u64 0,.string ⟨x.toArray⟩,.slice none 0 0,.int .i64 0,.slice none 0 0] rfl (blk_new _ _) (by simp [Value.oneCell']) (by omega) (by have:=lt_blk hv;have:=kA.size;omega)
    have c3:wr.cell? ⟨w.heap.size+1,3,none⟩=some (.slice A j cc):=(blk_cell hv 3).trans rfl
    have hv5:=k5.blk (kA.blk hv trivial) (far _ (by omega))
    have f5:=blk_free hv5 3
    have c5':w5.cell? ⟨w.heap.size+1,3,none⟩=some (.slice A j cc):=(blk_cell hv5 3).trans rfl
    have HAP:=Lib.hid hap
    have HV5:=Lib.hid hv5
    have HR5:=Lib.hid (k5.blk (kA.blk hR trivial) (far _ (by omega)))
    have HO5:=Lib.hid hown5
    have K5:=Lib.hid ((kr.trans kA).then k5 (fun i hi _=>far i (by omega)))
    clear hx hap hv5 hown5 k5 far hv hR hown
    go_wp2_with (at_builtin;refine wpList_append_eq rfl _ _ 43 rfl _ _ _ _ rfl rfl HAP.out ?_)
    go_roundg m
    case measure=>omega
    case rel=>
     have kS:=(Keep.refl (fun b=>b≠w.heap.size+1) w5).setCell (p:=⟨w.heap.size+1,3,none⟩) (.inr (by simp)) (.slice (some ⟨g5,0,none⟩) (j+1) c5)
     have hcs:symC (ts.take (j+1))=symC (ts.take j)++[.int .i64 20,.int .u64 0,.string ⟨x.toArray⟩,.slice none 0 0,.int .i64 0,.slice none 0 0]:=by
      rw [←List.take_append_getElem hjx,←HX.out]
      simp [symC,plainCells]
     refine⟨j+1,.slice (some ⟨g5,0,none⟩) (j+1) c5,by omega,congrArg _ (by omega),K5.out.setCell (p:=⟨w.heap.size+1,3,none⟩) (Or.inl (b:=¬True) (Nat.le_succ _)) _,kS.blk HR5.out (by omega),(blk_set HV5.out 3 _).trans (by simp),?_⟩
     rw [hcs]
     exact own_near HO5.out (kS.mono fun b _ hb=>by omega)
end Go.Proofs.YtfoegolfadhmjaaGreatDoor
