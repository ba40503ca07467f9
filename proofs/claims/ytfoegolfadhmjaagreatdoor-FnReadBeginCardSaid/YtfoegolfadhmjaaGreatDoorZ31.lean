/- spec.Usual, whole. -/
import Derived.Test.YtfoegolfadhmjaaGreatDoorZ19
set_option linter.all false
set_option maxRecDepth 100000
set_option maxHeartbeats 16000000
namespace Go.Proofs.YtfoegolfadhmjaaGreatDoor
open Go.RowKit Go.WideShapes Go.Sort
theorem usual_val(N:Nat):N≤1000000→∀(v:V),cnt v≤N→Tidy [v]→∀(w:World) (x:Value),VM w v x→Calls Tryz.prog 138 #[x] w fun e w'=>∃y,e=.returned y∧New w w'∧Dep (fun b=>w.heap.size≤b) w' (fun w=>VM w (usualV v) y):=by
 induction N with
 | zero=>
   intro _ v h
   cases v
   simp only [cnt]at h
   omega
 | succ N ih=>
   intro hmx v hN hT w x hx
   obtain⟨k,n,t,ks,o,rfl,q1,q3⟩:=hT.inv
   by_cases hk:k=20
   ·subst hk
    obtain rfl:=q1 (by omega)
    exact usual_sym n t o w x hx
   by_cases hs1:k=23∧∃u,ks=[u]∧u.kind=20
   ·obtain⟨rfl,⟨k',n',t',ks',o',ds'⟩,rfl,hu⟩:=hs1
    simp only [V.kind]at hu
    subst hu
    exact usual_one n n' t t' ks' ds' o o' w x hx
   have q2:k=23→∀u,ks=[u]→u.kind≠20:=fun e u eu h=>hs1 ⟨e,u,eu,h⟩
   clear hs1
   obtain⟨sk0,sd,rfl,hn,hks,hds⟩:=hx.inv
   have HDS:=Lib.hid hds
   have HK:=Lib.hid hks
   obtain⟨A1,c1,rfl,-,-⟩:=hks.shape
   obtain⟨A2,c2,rfl,-,-⟩:=hds.shape
   have IH:=Lib.hid (ih (by omega))
   have TI:=Lib.hid q3
   have hNk:cnts ks≤N:=by simp only [cnt]at hN;omega
   have hmb:ks.length≤1000000:=by have:=len_cnts ks;omega
   have HU:=Lib.hid (usual_tidy (n:=n) (t:=t) (o:=o) q2 hk)
   have Q2:=Lib.hid q2
   clear hks hds hx ih q1 q2 q3 hT
   simp only [List.length_nil]at HDS ⊢
   obtain⟨m,hm⟩:∃m,m=ks.length:=⟨_,rfl⟩
   rw [←hm]at HK hmb ⊢
   have M1:=Lib.hid hm
   clear hm hN
   have t20:(k==20)=false:=by simpa using hk
   by_cases h21:k=21
   case pos=>
    subst h21
    go_enter Tryz.func138,Tryz.ntmps138
    go_wp2_with fail
    go_loopg [42] m (fun kk s42 wr=>∃(j:Nat) (sk:Value),j+kk=m∧s42=.int .i64 (j:Int)∧New w wr∧wr.heap[w.heap.size]? =some (.cells #[.int .i64 21,.int .u64 (n:Int),.string ⟨t.toArray⟩,.slice A1 m c1,.int .i64 o,.slice A2 0 c2] 78 (0,0))∧wr.heap[w.heap.size+1]? =some (.cells #[.int .i64 0,.int .u64 0,.string ⟨#[]⟩,.slice none 0 0,.int .i64 0,.slice none 0 0] 78 (0,0))∧wr.heap[w.heap.size+2]? =some (.cells #[.int .i64 21,.int .u64 (n:Int),.string ⟨t.toArray⟩,sk,.int .i64 o,.slice A2 0 c2] 78 (0,0))∧RowV wr (w.heap.size+3) sk (usualVs (ks.take j)))
    case atStart=>
     refine⟨0,.slice none 0 0,by omega,rfl,((((Keep.refl _ w).alloc _).alloc _).alloc _),blk_alloc (blk_alloc (blk_new w _) _) _,?_,?_,RowV.nil⟩
     ·exact blk_alloc (by simpa using blk_new (w.alloc (.cells #[.int .i64 21,.int .u64 (n:Int),.string ⟨t.toArray⟩,.slice A1 m c1,.int .i64 o,.slice A2 0 c2] 78)) (.cells #[.int .i64 0,.int .u64 0,.string ⟨#[]⟩,.slice none 0 0,.int .i64 0,.slice none 0 0] 78)) _
     ·simpa using blk_new ((w.alloc (.cells #[.int .i64 21,.int .u64 (n:Int),.string ⟨t.toArray⟩,.slice A1 m c1,.int .i64 o,.slice A2 0 c2] 78)).alloc (.cells #[.int .i64 0,.int .u64 0,.string ⟨#[]⟩,.slice none 0 0,.int .i64 0,.slice none 0 0] 78)) (.cells #[.int .i64 21,.int .u64 (n:Int),.string ⟨t.toArray⟩,.slice none 0 0,.int .i64 o,.slice A2 0 c2] 78)
    case round=>
     obtain⟨j,sk,hj,rfl,kr,h0,h1,h2,hrow⟩:=hrel
     obtain⟨A,cc,hsk⟩:=hrow.shape
     rw [usualVs_map,List.length_map,List.length_take]at hsk
     have hjm:min j ks.length=j:=by have:=M1.out;omega
     rw [hjm]at hsk
     subst hsk
     have HROW:=Lib.hid hrow
     clear hrow hjm
     rcases gk with _ | kk
     ·obtain rfl:j=m:=by omega
      have z0:=(blk_cell h0 0).trans rfl
      have z5:=(blk_cell h0 5).trans rfl
      have x0:=(blk_cell h1 0).trans rfl
      have x1:=(blk_cell h1 1).trans rfl
      have x2:=(blk_cell h1 2).trans rfl
      have x3:=(blk_cell h1 3).trans rfl
      have x4:=(blk_cell h1 4).trans rfl
      have x5:=(blk_cell h1 5).trans rfl
      have f0:=blk_free h1 0
      have f1:=blk_free h1 1
      have f2:=blk_free h1 2
      have f3:=blk_free h1 3
      have f4:=blk_free h1 4
      have f5:=blk_free h1 5
      have y0:=(blk_cell h2 0).trans rfl
      have y1:=(blk_cell h2 1).trans rfl
      have y2:=(blk_cell h2 2).trans rfl
      have y3:=(blk_cell h2 3).trans rfl
      have y4:=(blk_cell h2 4).trans rfl
      have y5:=(blk_cell h2 5).trans rfl
      clear h0 h1 h2
      go_wp2
      refine bodyPost_ret (v:=.agg #[.int .i64 21,.int .u64 (n:Int),.string ⟨t.toArray⟩,.slice A j cc,.int .i64 o,.slice A2 0 c2]) (by simp [results,Tryz.results138,go_sem,x0,x1,x2,x3,x4,x5]) rfl ⟨_,rfl,?_,?_⟩
      ·repeat (refine Keep.setCell ?_ (Or.inl (b:=¬True) (Nat.le_succ _)) _)
       exact kr
      ·rw [HU.out]
       have hl:=HROW.out.out
       rw [List.take_of_length_le (by have:=M1.out;omega)]at hl
       refine Dep.imp (φ:=fun w=>LM w (usualVs ks) (.slice A j cc)) ?_ fun w2 h=>VM.mk hn h HDS.out.empty
       refine Dep.mono (ok:=fun b=>w.heap.size+3≤b) ?_ (fun b _ hb=>by omega)
       refine Dep.keep (ok':=fun b=>b≠w.heap.size+1) hl ?_ (fun b _ hb=>by omega)
       repeat (refine Keep.setCell ?_ (Or.inr (by simp)) _)
       exact Keep.refl _ _
     ·have hjn:j<m:=by omega
      have tj:decide (j<m)=true:=by simpa using hjn
      have hj1:j<ks.length:=by rw [←M1.out];exact hjn
      obtain⟨d2,i2,hAe,-,-,-,hat⟩:=(HK.out.keep kr).at2 (fun h=>by rw [h]at hj1;simp at hj1)
      cases hAe
      obtain⟨e0,e1,e2,e3,e4,e5,hva,g0,g1,g2,g3,g4,g5⟩:=hat j hj1
      obtain⟨ek,en,et,A5,l5,c5,eo,A6,l6,c6,he⟩:=hva.parts
      simp only [Value.agg.injEq,Array.mk.injEq,List.cons.injEq,and_true]at he
      obtain⟨rfl,rfl,rfl,rfl,rfl,rfl⟩:=he
      have kE:=((Keep.refl (fun _=>True) wr).alloc (.cells #[.int .i64 ek,.int .u64 en,.string et,.slice A5 l5 c5,.int .i64 eo,.slice A6 l6 c6] 78)).drew
      have hcall:=IH.out ks[j] (Nat.le_trans (cnts_get ks j hj1) hNk) (TI.out.get j hj1) (wr.alloc (.cells #[.int .i64 ek,.int .u64 en,.string et,.slice A5 l5 c5,.int .i64 eo,.slice A6 l6 c6] 78)).drew _ (hva.keep kE)
      have HC:=Lib.hid hcall
      clear hva hat hcall
      have c3:wr.cell? ⟨w.heap.size+2,3,none⟩=some (.slice A j cc):=(blk_cell h2 3).trans rfl
      have c3a:=cell_alloc c3 (.cells #[.int .i64 ek,.int .u64 en,.string et,.slice A5 l5 c5,.int .i64 eo,.slice A6 l6 c6] 78)
      have hsz:=lt_blk h2
      have hrowA:=HROW.out.keep kE (fun _ _=>trivial)
      have hlenj:(usualVs (ks.take j)).length=j:=by rw [usualVs_map,List.length_map,List.length_take];omega
      have HLJ:=Lib.hid hlenj
      have hfar:=HROW.out.far
      have hlt:∀g,Value.ownBlock (.slice A j cc)=some g→g<wr.heap.size:=fun g hg=>HROW.out.ownLt hg
      clear hlenj
      go_wp2_with fail
      go_region_law
       (first | (go_simp;go_at_call 138;refine HC.out.mono ?_;rintro e w4 ⟨y,rfl,k4,hd4⟩;obtain⟨yk,yn,yt,A3,l3,c3',yo,A4,l4,c4,rfl⟩:=hd4.here.parts;have kY:=(Keep.refl (fun _=>True) w4).alloc (.cells #[.int .i64 yk,.int .u64 yn,.string yt,.slice A3 l3 c3',.int .i64 yo,.slice A4 l4 c4] 78);have e4s:=k4.size;have hrow4:=(hrowA.keep k4 (fun _ _=>trivial)).keep kY (fun _ _=>trivial);have c34:=k4.cell (show(wr.alloc (.cells #[.int .i64 ek,.int .u64 en,.string et,.slice A5 l5 c5,.int .i64 eo,.slice A6 l6 c6] 78)).drew.cell? _=_ from c3a) trivial;have c35:=cell_alloc c34 (.cells #[.int .i64 yk,.int .u64 yn,.string yt,.slice A3 l3 c3',.int .i64 yo,.slice A4 l4 c4] 78);obtain⟨g6,c6',w6,hap,hrow6,k6⟩:=hrow4.step (vs:=[usualV ks[j]]) w4.heap.size 0 1 [.int .i64 yk,.int .u64 yn,.string yt,.slice A3 l3 c3',.int .i64 yo,.slice A4 l4 c4] (fun q z hq=>by rw [blk_cell (blk_new w4 (.cells #[.int .i64 yk,.int .u64 yn,.string yt,.slice A3 l3 c3',.int .i64 yo,.slice A4 l4 c4] 78)),Nat.zero_add];simpa using hq) ((hd4.imp fun _ h=>h.mem).step kY.size (fun i hi _=>kY.block i hi trivial) (fun z hz hb=>⟨by simp at hb e4s;omega,fun e=>by have:=hlt _ e.symm;simp at hb;omega⟩)) (by simp) (by rw [HLJ.out];simp;omega) (by simp at e4s ⊢;omega);rw [HLJ.out]at hap hrow6;simp only [List.length_singleton]at hap hrow6;have kall:=(kE.trans k4).trans kY;have h26:=k6.blk (kall.blk h2 trivial) (hfar _ (by omega));have f6:=blk_free h26 3;have c36:w6.cell? ⟨w.heap.size+2,3,none⟩=some (.slice A j cc):=(blk_cell h26 3).trans rfl) | (refine step_append_eq hap (by rfl) _ _ (by rfl) (by rfl) (by rfl) ?_))
      all_goals
       go_wp2
       go_roundg kk
       case measure=>omega
       case rel=>
        have hl6:=lt_blk h26
        refine⟨j+1,.slice (some ⟨g6,0,none⟩) (j+1) c6',by omega,congrArg _ (by omega),((kr.trans kall).then k6 (fun i hi _=>hfar i (by omega))).setCell (p:=⟨w.heap.size+2,3,none⟩) (Or.inl (b:=¬True) (by simp)) _,?_,?_,?_,?_⟩
        ·exact blk_far (k6.blk (kall.blk h0 trivial) (hfar _ (by omega))) (p:=⟨w.heap.size+2,3,none⟩) (by simp) _
        ·exact blk_far (k6.blk (kall.blk h1 trivial) (hfar _ (by omega))) (p:=⟨w.heap.size+2,3,none⟩) (by simp) _
        ·exact(blk_set h26 3 _).trans (by simp)
        ·rw [usualVs_take_succ ks j hj1]
         exact hrow6.keep ((Keep.refl (fun b=>b≠w.heap.size+2) w6).setCell (p:=⟨w.heap.size+2,3,none⟩) (.inr (by simp)) _) (fun b hb=>by show b≠w.heap.size+2;omega)
   have t21:(k==21)=false:=by simpa using h21
   by_cases h23:k=23
   case neg=>
    have t23:(k==23)=false:=by simpa using h23
    go_enter Tryz.func138,Tryz.ntmps138
    go_wp2_with fail
    go_loopg [42] m (fun kk s42 wr=>∃(j:Nat) (sk:Value),j+kk=m∧s42=.int .i64 (j:Int)∧New w wr∧wr.heap[w.heap.size]? =some (.cells #[.int .i64 k,.int .u64 (n:Int),.string ⟨t.toArray⟩,.slice A1 m c1,.int .i64 o,.slice A2 0 c2] 78 (0,0))∧wr.heap[w.heap.size+1]? =some (.cells #[.int .i64 0,.int .u64 0,.string ⟨#[]⟩,.slice none 0 0,.int .i64 0,.slice none 0 0] 78 (0,0))∧wr.heap[w.heap.size+2]? =some (.cells #[.int .i64 k,.int .u64 (n:Int),.string ⟨t.toArray⟩,sk,.int .i64 o,.slice A2 0 c2] 78 (0,0))∧RowV wr (w.heap.size+3) sk (usualVs (ks.take j)))
    case atStart=>
     refine⟨0,.slice none 0 0,by omega,rfl,((((Keep.refl _ w).alloc _).alloc _).alloc _),blk_alloc (blk_alloc (blk_new w _) _) _,?_,?_,RowV.nil⟩
     ·exact blk_alloc (by simpa using blk_new (w.alloc (.cells #[.int .i64 k,.int .u64 (n:Int),.string ⟨t.toArray⟩,.slice A1 m c1,.int .i64 o,.slice A2 0 c2] 78)) (.cells #[.int .i64 0,.int .u64 0,.string ⟨#[]⟩,.slice none 0 0,.int .i64 0,.slice none 0 0] 78)) _
     ·simpa using blk_new ((w.alloc (.cells #[.int .i64 k,.int .u64 (n:Int),.string ⟨t.toArray⟩,.slice A1 m c1,.int .i64 o,.slice A2 0 c2] 78)).alloc (.cells #[.int .i64 0,.int .u64 0,.string ⟨#[]⟩,.slice none 0 0,.int .i64 0,.slice none 0 0] 78)) (.cells #[.int .i64 k,.int .u64 (n:Int),.string ⟨t.toArray⟩,.slice none 0 0,.int .i64 o,.slice A2 0 c2] 78)
    case round=>
     obtain⟨j,sk,hj,rfl,kr,h0,h1,h2,hrow⟩:=hrel
     obtain⟨A,cc,hsk⟩:=hrow.shape
     rw [usualVs_map,List.length_map,List.length_take]at hsk
     have hjm:min j ks.length=j:=by have:=M1.out;omega
     rw [hjm]at hsk
     subst hsk
     have HROW:=Lib.hid hrow
     clear hrow hjm
     rcases gk with _ | kk
     ·obtain rfl:j=m:=by omega
      have z0:=(blk_cell h0 0).trans rfl
      have z5:=(blk_cell h0 5).trans rfl
      have x0:=(blk_cell h1 0).trans rfl
      have x1:=(blk_cell h1 1).trans rfl
      have x2:=(blk_cell h1 2).trans rfl
      have x3:=(blk_cell h1 3).trans rfl
      have x4:=(blk_cell h1 4).trans rfl
      have x5:=(blk_cell h1 5).trans rfl
      have f0:=blk_free h1 0
      have f1:=blk_free h1 1
      have f2:=blk_free h1 2
      have f3:=blk_free h1 3
      have f4:=blk_free h1 4
      have f5:=blk_free h1 5
      have y0:=(blk_cell h2 0).trans rfl
      have y1:=(blk_cell h2 1).trans rfl
      have y2:=(blk_cell h2 2).trans rfl
      have y3:=(blk_cell h2 3).trans rfl
      have y4:=(blk_cell h2 4).trans rfl
      have y5:=(blk_cell h2 5).trans rfl
      clear h0 h1 h2
      go_wp2
      refine bodyPost_ret (v:=.agg #[.int .i64 k,.int .u64 (n:Int),.string ⟨t.toArray⟩,.slice A j cc,.int .i64 o,.slice A2 0 c2]) (by simp [results,Tryz.results138,go_sem,x0,x1,x2,x3,x4,x5]) rfl ⟨_,rfl,?_,?_⟩
      ·repeat (refine Keep.setCell ?_ (Or.inl (b:=¬True) (Nat.le_succ _)) _)
       exact kr
      ·rw [HU.out]
       have hl:=HROW.out.out
       rw [List.take_of_length_le (by have:=M1.out;omega)]at hl
       refine Dep.imp (φ:=fun w=>LM w (usualVs ks) (.slice A j cc)) ?_ fun w2 h=>VM.mk hn h HDS.out.empty
       refine Dep.mono (ok:=fun b=>w.heap.size+3≤b) ?_ (fun b _ hb=>by omega)
       refine Dep.keep (ok':=fun b=>b≠w.heap.size+1) hl ?_ (fun b _ hb=>by omega)
       repeat (refine Keep.setCell ?_ (Or.inr (by simp)) _)
       exact Keep.refl _ _
     ·have hjn:j<m:=by omega
      have tj:decide (j<m)=true:=by simpa using hjn
      have hj1:j<ks.length:=by rw [←M1.out];exact hjn
      obtain⟨d2,i2,hAe,-,-,-,hat⟩:=(HK.out.keep kr).at2 (fun h=>by rw [h]at hj1;simp at hj1)
      cases hAe
      obtain⟨e0,e1,e2,e3,e4,e5,hva,g0,g1,g2,g3,g4,g5⟩:=hat j hj1
      obtain⟨ek,en,et,A5,l5,c5,eo,A6,l6,c6,he⟩:=hva.parts
      simp only [Value.agg.injEq,Array.mk.injEq,List.cons.injEq,and_true]at he
      obtain⟨rfl,rfl,rfl,rfl,rfl,rfl⟩:=he
      have kE:=((Keep.refl (fun _=>True) wr).alloc (.cells #[.int .i64 ek,.int .u64 en,.string et,.slice A5 l5 c5,.int .i64 eo,.slice A6 l6 c6] 78)).drew
      have hcall:=IH.out ks[j] (Nat.le_trans (cnts_get ks j hj1) hNk) (TI.out.get j hj1) (wr.alloc (.cells #[.int .i64 ek,.int .u64 en,.string et,.slice A5 l5 c5,.int .i64 eo,.slice A6 l6 c6] 78)).drew _ (hva.keep kE)
      have HC:=Lib.hid hcall
      clear hva hat hcall
      have c3:wr.cell? ⟨w.heap.size+2,3,none⟩=some (.slice A j cc):=(blk_cell h2 3).trans rfl
      have c3a:=cell_alloc c3 (.cells #[.int .i64 ek,.int .u64 en,.string et,.slice A5 l5 c5,.int .i64 eo,.slice A6 l6 c6] 78)
      have hsz:=lt_blk h2
      have hrowA:=HROW.out.keep kE (fun _ _=>trivial)
      have hlenj:(usualVs (ks.take j)).length=j:=by rw [usualVs_map,List.length_map,List.length_take];omega
      have HLJ:=Lib.hid hlenj
      have hfar:=HROW.out.far
      have hlt:∀g,Value.ownBlock (.slice A j cc)=some g→g<wr.heap.size:=fun g hg=>HROW.out.ownLt hg
      clear hlenj
      go_wp2_with fail
      go_region_law
       (first | (go_simp;go_at_call 138;refine HC.out.mono ?_;rintro e w4 ⟨y,rfl,k4,hd4⟩;obtain⟨yk,yn,yt,A3,l3,c3',yo,A4,l4,c4,rfl⟩:=hd4.here.parts;have kY:=(Keep.refl (fun _=>True) w4).alloc (.cells #[.int .i64 yk,.int .u64 yn,.string yt,.slice A3 l3 c3',.int .i64 yo,.slice A4 l4 c4] 78);have e4s:=k4.size;have hrow4:=(hrowA.keep k4 (fun _ _=>trivial)).keep kY (fun _ _=>trivial);have c34:=k4.cell (show(wr.alloc (.cells #[.int .i64 ek,.int .u64 en,.string et,.slice A5 l5 c5,.int .i64 eo,.slice A6 l6 c6] 78)).drew.cell? _=_ from c3a) trivial;have c35:=cell_alloc c34 (.cells #[.int .i64 yk,.int .u64 yn,.string yt,.slice A3 l3 c3',.int .i64 yo,.slice A4 l4 c4] 78);obtain⟨g6,c6',w6,hap,hrow6,k6⟩:=hrow4.step (vs:=[usualV ks[j]]) w4.heap.size 0 1 [.int .i64 yk,.int .u64 yn,.string yt,.slice A3 l3 c3',.int .i64 yo,.slice A4 l4 c4] (fun q z hq=>by rw [blk_cell (blk_new w4 (.cells #[.int .i64 yk,.int .u64 yn,.string yt,.slice A3 l3 c3',.int .i64 yo,.slice A4 l4 c4] 78)),Nat.zero_add];simpa using hq) ((hd4.imp fun _ h=>h.mem).step kY.size (fun i hi _=>kY.block i hi trivial) (fun z hz hb=>⟨by simp at hb e4s;omega,fun e=>by have:=hlt _ e.symm;simp at hb;omega⟩)) (by simp) (by rw [HLJ.out];simp;omega) (by simp at e4s ⊢;omega);rw [HLJ.out]at hap hrow6;simp only [List.length_singleton]at hap hrow6;have kall:=(kE.trans k4).trans kY;have h26:=k6.blk (kall.blk h2 trivial) (hfar _ (by omega));have f6:=blk_free h26 3;have c36:w6.cell? ⟨w.heap.size+2,3,none⟩=some (.slice A j cc):=(blk_cell h26 3).trans rfl) | (refine step_append_eq hap (by rfl) _ _ (by rfl) (by rfl) (by rfl) ?_))
      all_goals
       go_wp2
       go_roundg kk
       case measure=>omega
       case rel=>
        have hl6:=lt_blk h26
        refine⟨j+1,.slice (some ⟨g6,0,none⟩) (j+1) c6',by omega,congrArg _ (by omega),((kr.trans kall).then k6 (fun i hi _=>hfar i (by omega))).setCell (p:=⟨w.heap.size+2,3,none⟩) (Or.inl (b:=¬True) (by simp)) _,?_,?_,?_,?_⟩
        ·exact blk_far (k6.blk (kall.blk h0 trivial) (hfar _ (by omega))) (p:=⟨w.heap.size+2,3,none⟩) (by simp) _
        ·exact blk_far (k6.blk (kall.blk h1 trivial) (hfar _ (by omega))) (p:=⟨w.heap.size+2,3,none⟩) (by simp) _
        ·exact(blk_set h26 3 _).trans (by simp)
        ·rw [usualVs_take_succ ks j hj1]
         exact hrow6.keep ((Keep.refl (fun b=>b≠w.heap.size+2) w6).setCell (p:=⟨w.heap.size+2,3,none⟩) (.inr (by simp)) _) (fun b hb=>by show b≠w.heap.size+2;omega)
   subst h23
   by_cases hm1:m=1
   case neg=>
    have t1:((m:Int)==1)=false:=by simp;omega
    go_enter Tryz.func138,Tryz.ntmps138
    go_wp2_with fail
    go_loopg [42] m (fun kk s42 wr=>∃(j:Nat) (sk:Value),j+kk=m∧s42=.int .i64 (j:Int)∧New w wr∧wr.heap[w.heap.size]? =some (.cells #[.int .i64 23,.int .u64 (n:Int),.string ⟨t.toArray⟩,.slice A1 m c1,.int .i64 o,.slice A2 0 c2] 78 (0,0))∧wr.heap[w.heap.size+1]? =some (.cells #[.int .i64 0,.int .u64 0,.string ⟨#[]⟩,.slice none 0 0,.int .i64 0,.slice none 0 0] 78 (0,0))∧wr.heap[w.heap.size+2]? =some (.cells #[.int .i64 23,.int .u64 (n:Int),.string ⟨t.toArray⟩,sk,.int .i64 o,.slice A2 0 c2] 78 (0,0))∧RowV wr (w.heap.size+3) sk (usualVs (ks.take j)))
    case atStart=>
     refine⟨0,.slice none 0 0,by omega,rfl,((((Keep.refl _ w).alloc _).alloc _).alloc _),blk_alloc (blk_alloc (blk_new w _) _) _,?_,?_,RowV.nil⟩
     ·exact blk_alloc (by simpa using blk_new (w.alloc (.cells #[.int .i64 23,.int .u64 (n:Int),.string ⟨t.toArray⟩,.slice A1 m c1,.int .i64 o,.slice A2 0 c2] 78)) (.cells #[.int .i64 0,.int .u64 0,.string ⟨#[]⟩,.slice none 0 0,.int .i64 0,.slice none 0 0] 78)) _
     ·simpa using blk_new ((w.alloc (.cells #[.int .i64 23,.int .u64 (n:Int),.string ⟨t.toArray⟩,.slice A1 m c1,.int .i64 o,.slice A2 0 c2] 78)).alloc (.cells #[.int .i64 0,.int .u64 0,.string ⟨#[]⟩,.slice none 0 0,.int .i64 0,.slice none 0 0] 78)) (.cells #[.int .i64 23,.int .u64 (n:Int),.string ⟨t.toArray⟩,.slice none 0 0,.int .i64 o,.slice A2 0 c2] 78)
    case round=>
     obtain⟨j,sk,hj,rfl,kr,h0,h1,h2,hrow⟩:=hrel
     obtain⟨A,cc,hsk⟩:=hrow.shape
     rw [usualVs_map,List.length_map,List.length_take]at hsk
     have hjm:min j ks.length=j:=by have:=M1.out;omega
     rw [hjm]at hsk
     subst hsk
     have HROW:=Lib.hid hrow
     clear hrow hjm
     rcases gk with _ | kk
     ·obtain rfl:j=m:=by omega
      have z0:=(blk_cell h0 0).trans rfl
      have z5:=(blk_cell h0 5).trans rfl
      have x0:=(blk_cell h1 0).trans rfl
      have x1:=(blk_cell h1 1).trans rfl
      have x2:=(blk_cell h1 2).trans rfl
      have x3:=(blk_cell h1 3).trans rfl
      have x4:=(blk_cell h1 4).trans rfl
      have x5:=(blk_cell h1 5).trans rfl
      have f0:=blk_free h1 0
      have f1:=blk_free h1 1
      have f2:=blk_free h1 2
      have f3:=blk_free h1 3
      have f4:=blk_free h1 4
      have f5:=blk_free h1 5
      have y0:=(blk_cell h2 0).trans rfl
      have y1:=(blk_cell h2 1).trans rfl
      have y2:=(blk_cell h2 2).trans rfl
      have y3:=(blk_cell h2 3).trans rfl
      have y4:=(blk_cell h2 4).trans rfl
      have y5:=(blk_cell h2 5).trans rfl
      clear h0 h1 h2
      go_wp2
      refine bodyPost_ret (v:=.agg #[.int .i64 23,.int .u64 (n:Int),.string ⟨t.toArray⟩,.slice A j cc,.int .i64 o,.slice A2 0 c2]) (by simp [results,Tryz.results138,go_sem,x0,x1,x2,x3,x4,x5]) rfl ⟨_,rfl,?_,?_⟩
      ·repeat (refine Keep.setCell ?_ (Or.inl (b:=¬True) (Nat.le_succ _)) _)
       exact kr
      ·rw [HU.out]
       have hl:=HROW.out.out
       rw [List.take_of_length_le (by have:=M1.out;omega)]at hl
       refine Dep.imp (φ:=fun w=>LM w (usualVs ks) (.slice A j cc)) ?_ fun w2 h=>VM.mk hn h HDS.out.empty
       refine Dep.mono (ok:=fun b=>w.heap.size+3≤b) ?_ (fun b _ hb=>by omega)
       refine Dep.keep (ok':=fun b=>b≠w.heap.size+1) hl ?_ (fun b _ hb=>by omega)
       repeat (refine Keep.setCell ?_ (Or.inr (by simp)) _)
       exact Keep.refl _ _
     ·have hjn:j<m:=by omega
      have tj:decide (j<m)=true:=by simpa using hjn
      have hj1:j<ks.length:=by rw [←M1.out];exact hjn
      obtain⟨d2,i2,hAe,-,-,-,hat⟩:=(HK.out.keep kr).at2 (fun h=>by rw [h]at hj1;simp at hj1)
      cases hAe
      obtain⟨e0,e1,e2,e3,e4,e5,hva,g0,g1,g2,g3,g4,g5⟩:=hat j hj1
      obtain⟨ek,en,et,A5,l5,c5,eo,A6,l6,c6,he⟩:=hva.parts
      simp only [Value.agg.injEq,Array.mk.injEq,List.cons.injEq,and_true]at he
      obtain⟨rfl,rfl,rfl,rfl,rfl,rfl⟩:=he
      have kE:=((Keep.refl (fun _=>True) wr).alloc (.cells #[.int .i64 ek,.int .u64 en,.string et,.slice A5 l5 c5,.int .i64 eo,.slice A6 l6 c6] 78)).drew
      have hcall:=IH.out ks[j] (Nat.le_trans (cnts_get ks j hj1) hNk) (TI.out.get j hj1) (wr.alloc (.cells #[.int .i64 ek,.int .u64 en,.string et,.slice A5 l5 c5,.int .i64 eo,.slice A6 l6 c6] 78)).drew _ (hva.keep kE)
      have HC:=Lib.hid hcall
      clear hva hat hcall
      have c3:wr.cell? ⟨w.heap.size+2,3,none⟩=some (.slice A j cc):=(blk_cell h2 3).trans rfl
      have c3a:=cell_alloc c3 (.cells #[.int .i64 ek,.int .u64 en,.string et,.slice A5 l5 c5,.int .i64 eo,.slice A6 l6 c6] 78)
      have hsz:=lt_blk h2
      have hrowA:=HROW.out.keep kE (fun _ _=>trivial)
      have hlenj:(usualVs (ks.take j)).length=j:=by rw [usualVs_map,List.length_map,List.length_take];omega
      have HLJ:=Lib.hid hlenj
      have hfar:=HROW.out.far
      have hlt:∀g,Value.ownBlock (.slice A j cc)=some g→g<wr.heap.size:=fun g hg=>HROW.out.ownLt hg
      clear hlenj
      go_wp2_with fail
      go_region_law
       (first | (go_simp;go_at_call 138;refine HC.out.mono ?_;rintro e w4 ⟨y,rfl,k4,hd4⟩;obtain⟨yk,yn,yt,A3,l3,c3',yo,A4,l4,c4,rfl⟩:=hd4.here.parts;have kY:=(Keep.refl (fun _=>True) w4).alloc (.cells #[.int .i64 yk,.int .u64 yn,.string yt,.slice A3 l3 c3',.int .i64 yo,.slice A4 l4 c4] 78);have e4s:=k4.size;have hrow4:=(hrowA.keep k4 (fun _ _=>trivial)).keep kY (fun _ _=>trivial);have c34:=k4.cell (show(wr.alloc (.cells #[.int .i64 ek,.int .u64 en,.string et,.slice A5 l5 c5,.int .i64 eo,.slice A6 l6 c6] 78)).drew.cell? _=_ from c3a) trivial;have c35:=cell_alloc c34 (.cells #[.int .i64 yk,.int .u64 yn,.string yt,.slice A3 l3 c3',.int .i64 yo,.slice A4 l4 c4] 78);obtain⟨g6,c6',w6,hap,hrow6,k6⟩:=hrow4.step (vs:=[usualV ks[j]]) w4.heap.size 0 1 [.int .i64 yk,.int .u64 yn,.string yt,.slice A3 l3 c3',.int .i64 yo,.slice A4 l4 c4] (fun q z hq=>by rw [blk_cell (blk_new w4 (.cells #[.int .i64 yk,.int .u64 yn,.string yt,.slice A3 l3 c3',.int .i64 yo,.slice A4 l4 c4] 78)),Nat.zero_add];simpa using hq) ((hd4.imp fun _ h=>h.mem).step kY.size (fun i hi _=>kY.block i hi trivial) (fun z hz hb=>⟨by simp at hb e4s;omega,fun e=>by have:=hlt _ e.symm;simp at hb;omega⟩)) (by simp) (by rw [HLJ.out];simp;omega) (by simp at e4s ⊢;omega);rw [HLJ.out]at hap hrow6;simp only [List.length_singleton]at hap hrow6;have kall:=(kE.trans k4).trans kY;have h26:=k6.blk (kall.blk h2 trivial) (hfar _ (by omega));have f6:=blk_free h26 3;have c36:w6.cell? ⟨w.heap.size+2,3,none⟩=some (.slice A j cc):=(blk_cell h26 3).trans rfl) | (refine step_append_eq hap (by rfl) _ _ (by rfl) (by rfl) (by rfl) ?_))
      all_goals
       go_wp2
       go_roundg kk
       case measure=>omega
       case rel=>
        have hl6:=lt_blk h26
        refine⟨j+1,.slice (some ⟨g6,0,none⟩) (j+1) c6',by omega,congrArg _ (by omega),((kr.trans kall).then k6 (fun i hi _=>hfar i (by omega))).setCell (p:=⟨w.heap.size+2,3,none⟩) (Or.inl (b:=¬True) (by simp)) _,?_,?_,?_,?_⟩
        ·exact blk_far (k6.blk (kall.blk h0 trivial) (hfar _ (by omega))) (p:=⟨w.heap.size+2,3,none⟩) (by simp) _
        ·exact blk_far (k6.blk (kall.blk h1 trivial) (hfar _ (by omega))) (p:=⟨w.heap.size+2,3,none⟩) (by simp) _
        ·exact(blk_set h26 3 _).trans (by simp)
        ·rw [usualVs_take_succ ks j hj1]
         exact hrow6.keep ((Keep.refl (fun b=>b≠w.heap.size+2) w6).setCell (p:=⟨w.heap.size+2,3,none⟩) (.inr (by simp)) _) (fun b hb=>by show b≠w.heap.size+2;omega)
   subst hm1
   obtain⟨d,i,rfl,-,-,-,hat⟩:=HK.out.at2 (fun h=>by have:=M1.out;rw [h]at this;simp at this)
   have hl0:0<ks.length:=by rw [←M1.out];omega
   obtain⟨a0,a1,a2,a3,a4,a5,hva,g0,g1,g2,g3,g4,g5⟩:=hat 0 hl0
   have hkind:∃k':Int,a0=.int .i64 k'∧(k'==20)=false:=by
    have:=Q2.out rfl ks[0] (by
     have h:=M1.out
     match ks,h with
     | [u],_=>rfl)
    generalize ks[0]=u at hva this
    obtain⟨k',n',t',ks',o',ds'⟩:=u
    obtain⟨sk,sd,he,_⟩:=hva.inv
    simp only [Value.agg.injEq,Array.mk.injEq,List.cons.injEq,and_true]at he
    exact⟨k',he.1,by simpa [V.kind]using this⟩
   obtain⟨k',rfl,t20'⟩:=hkind
   simp only [Nat.zero_mul,Nat.add_zero]at g0
   have g0A:=fun o1 o2 o3=>cell_alloc (cell_alloc (cell_alloc g0 o1) o2) o3
   clear hat hva g0 g1 g2 g3 g4 g5
   go_enter Tryz.func138,Tryz.ntmps138
   go_wp2_with fail
   go_loopg [42] 1 (fun kk s42 wr=>∃(j:Nat) (sk:Value),j+kk=1∧s42=.int .i64 (j:Int)∧New w wr∧wr.heap[w.heap.size]? =some (.cells #[.int .i64 23,.int .u64 (n:Int),.string ⟨t.toArray⟩,.slice (some ⟨d,i,none⟩) 1 c1,.int .i64 o,.slice A2 0 c2] 78 (0,0))∧wr.heap[w.heap.size+1]? =some (.cells #[.int .i64 0,.int .u64 0,.string ⟨#[]⟩,.slice none 0 0,.int .i64 0,.slice none 0 0] 78 (0,0))∧wr.heap[w.heap.size+2]? =some (.cells #[.int .i64 23,.int .u64 (n:Int),.string ⟨t.toArray⟩,sk,.int .i64 o,.slice A2 0 c2] 78 (0,0))∧RowV wr (w.heap.size+3) sk (usualVs (ks.take j)))
   case atStart=>
    refine⟨0,.slice none 0 0,by omega,rfl,((((Keep.refl _ w).alloc _).alloc _).alloc _),blk_alloc (blk_alloc (blk_new w _) _) _,?_,?_,RowV.nil⟩
    ·exact blk_alloc (by simpa using blk_new (w.alloc (.cells #[.int .i64 23,.int .u64 (n:Int),.string ⟨t.toArray⟩,.slice (some ⟨d,i,none⟩) 1 c1,.int .i64 o,.slice A2 0 c2] 78)) (.cells #[.int .i64 0,.int .u64 0,.string ⟨#[]⟩,.slice none 0 0,.int .i64 0,.slice none 0 0] 78)) _
    ·simpa using blk_new ((w.alloc (.cells #[.int .i64 23,.int .u64 (n:Int),.string ⟨t.toArray⟩,.slice (some ⟨d,i,none⟩) 1 c1,.int .i64 o,.slice A2 0 c2] 78)).alloc (.cells #[.int .i64 0,.int .u64 0,.string ⟨#[]⟩,.slice none 0 0,.int .i64 0,.slice none 0 0] 78)) (.cells #[.int .i64 23,.int .u64 (n:Int),.string ⟨t.toArray⟩,.slice none 0 0,.int .i64 o,.slice A2 0 c2] 78)
   case round=>
    obtain⟨j,sk,hj,rfl,kr,h0,h1,h2,hrow⟩:=hrel
    obtain⟨A,cc,hsk⟩:=hrow.shape
    rw [usualVs_map,List.length_map,List.length_take]at hsk
    have hjm:min j ks.length=j:=by have:=M1.out;omega
    rw [hjm]at hsk
    subst hsk
    have HROW:=Lib.hid hrow
    clear hrow hjm
    rcases gk with _ | kk
    ·obtain rfl:j=1:=by omega
     have z0:=(blk_cell h0 0).trans rfl
     have z5:=(blk_cell h0 5).trans rfl
     have x0:=(blk_cell h1 0).trans rfl
     have x1:=(blk_cell h1 1).trans rfl
     have x2:=(blk_cell h1 2).trans rfl
     have x3:=(blk_cell h1 3).trans rfl
     have x4:=(blk_cell h1 4).trans rfl
     have x5:=(blk_cell h1 5).trans rfl
     have f0:=blk_free h1 0
     have f1:=blk_free h1 1
     have f2:=blk_free h1 2
     have f3:=blk_free h1 3
     have f4:=blk_free h1 4
     have f5:=blk_free h1 5
     have y0:=(blk_cell h2 0).trans rfl
     have y1:=(blk_cell h2 1).trans rfl
     have y2:=(blk_cell h2 2).trans rfl
     have y3:=(blk_cell h2 3).trans rfl
     have y4:=(blk_cell h2 4).trans rfl
     have y5:=(blk_cell h2 5).trans rfl
     clear h0 h1 h2
     go_wp2
     refine bodyPost_ret (v:=.agg #[.int .i64 23,.int .u64 (n:Int),.string ⟨t.toArray⟩,.slice A 1 cc,.int .i64 o,.slice A2 0 c2]) (by simp [results,Tryz.results138,go_sem,x0,x1,x2,x3,x4,x5]) rfl ⟨_,rfl,?_,?_⟩
     ·repeat (refine Keep.setCell ?_ (Or.inl (b:=¬True) (Nat.le_succ _)) _)
      exact kr
     ·rw [HU.out]
      have hl:=HROW.out.out
      rw [List.take_of_length_le (by have:=M1.out;omega)]at hl
      refine Dep.imp (φ:=fun w=>LM w (usualVs ks) (.slice A 1 cc)) ?_ fun w2 h=>VM.mk hn h HDS.out.empty
      refine Dep.mono (ok:=fun b=>w.heap.size+3≤b) ?_ (fun b _ hb=>by omega)
      refine Dep.keep (ok':=fun b=>b≠w.heap.size+1) hl ?_ (fun b _ hb=>by omega)
      repeat (refine Keep.setCell ?_ (Or.inr (by simp)) _)
      exact Keep.refl _ _
    ·have hjn:j<1:=by omega
     have tj:decide (j<1)=true:=by simpa using hjn
     have hj1:j<ks.length:=by rw [←M1.out];exact hjn
     obtain⟨d2,i2,hAe,-,-,-,hat⟩:=(HK.out.keep kr).at2 (fun h=>by rw [h]at hj1;simp at hj1)
     cases hAe
     obtain⟨e0,e1,e2,e3,e4,e5,hva,g0,g1,g2,g3,g4,g5⟩:=hat j hj1
     obtain⟨ek,en,et,A5,l5,c5,eo,A6,l6,c6,he⟩:=hva.parts
     simp only [Value.agg.injEq,Array.mk.injEq,List.cons.injEq,and_true]at he
     obtain⟨rfl,rfl,rfl,rfl,rfl,rfl⟩:=he
     have kE:=((Keep.refl (fun _=>True) wr).alloc (.cells #[.int .i64 ek,.int .u64 en,.string et,.slice A5 l5 c5,.int .i64 eo,.slice A6 l6 c6] 78)).drew
     have hcall:=IH.out ks[j] (Nat.le_trans (cnts_get ks j hj1) hNk) (TI.out.get j hj1) (wr.alloc (.cells #[.int .i64 ek,.int .u64 en,.string et,.slice A5 l5 c5,.int .i64 eo,.slice A6 l6 c6] 78)).drew _ (hva.keep kE)
     have HC:=Lib.hid hcall
     clear hva hat hcall
     have c3:wr.cell? ⟨w.heap.size+2,3,none⟩=some (.slice A j cc):=(blk_cell h2 3).trans rfl
     have c3a:=cell_alloc c3 (.cells #[.int .i64 ek,.int .u64 en,.string et,.slice A5 l5 c5,.int .i64 eo,.slice A6 l6 c6] 78)
     have hsz:=lt_blk h2
     have hrowA:=HROW.out.keep kE (fun _ _=>trivial)
     have hlenj:(usualVs (ks.take j)).length=j:=by rw [usualVs_map,List.length_map,List.length_take];omega
     have HLJ:=Lib.hid hlenj
     have hfar:=HROW.out.far
     have hlt:∀g,Value.ownBlock (.slice A j cc)=some g→g<wr.heap.size:=fun g hg=>HROW.out.ownLt hg
     clear hlenj
     go_wp2_with fail
     go_region_law
      (first | (go_simp;go_at_call 138;refine HC.out.mono ?_;rintro e w4 ⟨y,rfl,k4,hd4⟩;obtain⟨yk,yn,yt,A3,l3,c3',yo,A4,l4,c4,rfl⟩:=hd4.here.parts;have kY:=(Keep.refl (fun _=>True) w4).alloc (.cells #[.int .i64 yk,.int .u64 yn,.string yt,.slice A3 l3 c3',.int .i64 yo,.slice A4 l4 c4] 78);have e4s:=k4.size;have hrow4:=(hrowA.keep k4 (fun _ _=>trivial)).keep kY (fun _ _=>trivial);have c34:=k4.cell (show(wr.alloc (.cells #[.int .i64 ek,.int .u64 en,.string et,.slice A5 l5 c5,.int .i64 eo,.slice A6 l6 c6] 78)).drew.cell? _=_ from c3a) trivial;have c35:=cell_alloc c34 (.cells #[.int .i64 yk,.int .u64 yn,.string yt,.slice A3 l3 c3',.int .i64 yo,.slice A4 l4 c4] 78);obtain⟨g6,c6',w6,hap,hrow6,k6⟩:=hrow4.step (vs:=[usualV ks[j]]) w4.heap.size 0 1 [.int .i64 yk,.int .u64 yn,.string yt,.slice A3 l3 c3',.int .i64 yo,.slice A4 l4 c4] (fun q z hq=>by rw [blk_cell (blk_new w4 (.cells #[.int .i64 yk,.int .u64 yn,.string yt,.slice A3 l3 c3',.int .i64 yo,.slice A4 l4 c4] 78)),Nat.zero_add];simpa using hq) ((hd4.imp fun _ h=>h.mem).step kY.size (fun i hi _=>kY.block i hi trivial) (fun z hz hb=>⟨by simp at hb e4s;omega,fun e=>by have:=hlt _ e.symm;simp at hb;omega⟩)) (by simp) (by rw [HLJ.out];simp;omega) (by simp at e4s ⊢;omega);rw [HLJ.out]at hap hrow6;simp only [List.length_singleton]at hap hrow6;have kall:=(kE.trans k4).trans kY;have h26:=k6.blk (kall.blk h2 trivial) (hfar _ (by omega));have f6:=blk_free h26 3;have c36:w6.cell? ⟨w.heap.size+2,3,none⟩=some (.slice A j cc):=(blk_cell h26 3).trans rfl) | (refine step_append_eq hap (by rfl) _ _ (by rfl) (by rfl) (by rfl) ?_))
     all_goals
      go_wp2
      go_roundg kk
      case measure=>omega
      case rel=>
       have hl6:=lt_blk h26
       refine⟨j+1,.slice (some ⟨g6,0,none⟩) (j+1) c6',by omega,congrArg _ (by omega),((kr.trans kall).then k6 (fun i hi _=>hfar i (by omega))).setCell (p:=⟨w.heap.size+2,3,none⟩) (Or.inl (b:=¬True) (by simp)) _,?_,?_,?_,?_⟩
       ·exact blk_far (k6.blk (kall.blk h0 trivial) (hfar _ (by omega))) (p:=⟨w.heap.size+2,3,none⟩) (by simp) _
       ·exact blk_far (k6.blk (kall.blk h1 trivial) (hfar _ (by omega))) (p:=⟨w.heap.size+2,3,none⟩) (by simp) _
       ·exact(blk_set h26 3 _).trans (by simp)
       ·rw [usualVs_take_succ ks j hj1]
        exact hrow6.keep ((Keep.refl (fun b=>b≠w.heap.size+2) w6).setCell (p:=⟨w.heap.size+2,3,none⟩) (.inr (by simp)) _) (fun b hb=>by show b≠w.heap.size+2;omega)
end Go.Proofs.YtfoegolfadhmjaaGreatDoor
