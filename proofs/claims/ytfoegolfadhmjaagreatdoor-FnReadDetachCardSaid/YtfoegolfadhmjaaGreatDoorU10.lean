/- An error that is asked can be written. What was written of an error is read back. spec.Usual, whole. spec.textField, mapField, FaultOf. spec.Field.SameField at values without descriptors. spec.Composite.sameKids. spec.Composite.Is. spec.Composite.Same. laws.left. Errors' fields, compared. spec.fewValues, spec.Values. spec.Values. spec.arrayFits. -/
import Derived.Test.YtfoegolfadhmjaaGreatDoorU03
import Derived.Test.YtfoegolfadhmjaaGreatDoorU04
import Derived.Test.YtfoegolfadhmjaaGreatDoorU07
import Derived.Test.YtfoegolfadhmjaaGreatDoorU08
import Derived.Test.YtfoegolfadhmjaaGreatDoorU09
set_option linter.unusedVariables false
set_option linter.unusedSimpArgs false
set_option maxRecDepth 100000
set_option maxHeartbeats 16000000
set_option linter.all false
namespace Go.Proofs.YtfoegolfadhmjaaGreatDoor
open Go.RowKit Go.WideShapes
theorem PutK.take{fs:List (V×V)}{ks:List V}(h:PutK fs ks)(hd:∀f∈fs,f.2=nul)(h23:∀f∈fs,f.1.kind≠23):ks=(fs.map (·.1)).take ks.length:=by
 refine List.ext_getElem (by rw [List.length_take,List.length_map];have:=h.le;omega) fun j h1 h2=>?_
 have hj:j<fs.length:=by have:=h.le;omega
 have hm:=List.getElem_mem hj
 have h3:=h.each j h1 hj
 rw [List.getElem_take,List.getElem_map]
 have e:fs[j]=(fs[j].1,nul):=by rw [←hd _ hm]
 rw [e]at h3
 exact h3.same (h23 _ hm)
theorem FitL.all{l:List V}(h:FitL l):∀j (hj:j<l.length),FitC l[j].kind l[j].num l[j].text l[j].kids l[j].desc:=fun j hj=>h.mem _ (List.getElem_mem hj)
theorem AbleW.one{v:V}(h:AbleL [v]):AbleW [v]:=.plain h .nil
theorem AbleW.takeN{l:List V}(h:∀v∈l,AbleL [v])(n:Nat):AbleW (l.take n):=by
 induction l generalizing n with
 | nil=>simpa using AbleW.nil
 | cons v l ih=>
   cases n with
   | zero=>simpa using AbleW.nil
   | succ n=>exact .plain (h v (List.mem_cons_self ..)) (ih (fun u hu=>h u (List.mem_cons_of_mem _ hu)) n)
theorem fau_kids(t0 t1:List UInt8)(l:List V):(fauF t0 t1 l).map (·.1)=[.mk 20 0 t0 [] 0 [],txF 19 t1,mpF l]:=rfl
theorem fau_ok{t0 t1:List UInt8}{l:List V}:(∀f∈fauF t0 t1 l,f.2=nul)∧∀f∈fauF t0 t1 l,f.1.kind≠23:=by
 refine⟨fun f hf=>?_,fun f hf=>?_⟩
 all_goals
  unfold fauF at hf
  simp only [List.mem_cons,List.mem_nil_iff,or_false]at hf
  rcases hf with rfl | rfl | rfl
 all_goals first
  | rfl
  | (simp [V.kind];done)
  | (simp only [txF];split<;>simp [nul,V.kind];done)
  | (simp only [mpF];split<;>simp [nul,V.kind];done)
theorem fault_able0{t0 t1:List UInt8}{l:List V}{od:Int}(a0:AbleL [.mk 20 0 t0 [] 0 []])(a1:AbleL [txF 19 t1])(a2:AbleL [mpF l])(hw:wts [V.mk 20 0 t0 [] 0 [],txF 19 t1,mpF l]≤49000000){ks:List V}(hk:PutK (fauF t0 t1 l) ks):PutOK (.mk 21 0 [] ks 0 [.mk 5 29 [] [] od []])∧wt (.mk 21 0 [] ks 0 [.mk 5 29 [] [] od []])≤50000000:=by
 have hks:=hk.take fau_ok.1 fau_ok.2
 rw [fau_kids]at hks
 have hall:∀v∈[V.mk 20 0 t0 [] 0 [],txF 19 t1,mpF l],AbleL [v]:=by
  intro v hv
  simp only [List.mem_cons,List.mem_nil_iff,or_false]at hv
  rcases hv with rfl | rfl | rfl
  ·exact a0
  ·exact a1
  ·exact a2
 have hwt:wt (.mk 21 0 [] ks 0 [.mk 5 29 [] [] od []])≤50000000:=by
  have h1:=wts_take [V.mk 20 0 t0 [] 0 [],txF 19 t1,mpF l] ks.length
  rw [←hks]at h1
  simp only [wts,wt,List.length_nil,Nat.add_zero]at hw h1 ⊢
  omega
 refine⟨put_ok _ _ (Nat.le_refl _) (.comp (by omega) (by rw [hks];exact AbleW.takeN hall _) ?_ .nil) (by omega),hwt⟩
 have:=hk.le
 have e:(fauF t0 t1 l).length=3:=rfl
 omega
theorem sample_able{od:Int}{ks:List V}(hk:PutK (fauF [97] [] []) ks):PutOK (.mk 21 0 [] ks 0 [.mk 5 29 [] [] od []])∧wt (.mk 21 0 [] ks 0 [.mk 5 29 [] [] od []])≤50000000:=
 fault_able0 (t0:=[97]) (t1:=[]) (l:=[]) (.leaf (.sym [97] 0 (by simp) (by rw [Lib.validD_cons 97 [] (by decide)];rfl)) .nil) (.leaf (LeafOk.null 0) .nil) (.leaf (LeafOk.null 0) .nil) (by simp [txF,mpF,nul,wts,wt]) hk
theorem fault_able{t0 t1:List UInt8}{l:List V}{od:Int}(hM:MapA (fun k=>k=19) l)(hF:FitL [.mk 21 0 [] ((fauF t0 t1 l).map (·.1)) 0 [.mk 5 29 [] [] od []]])(hc:cnt (.mk 21 0 [] ((fauF t0 t1 l).map (·.1)) 0 [.mk 5 29 [] [] od []])≤300){ks:List V}(hk:PutK (fauF t0 t1 l) ks):PutOK (.mk 21 0 [] ks 0 [.mk 5 29 [] [] od []])∧wt (.mk 21 0 [] ks 0 [.mk 5 29 [] [] od []])≤50000000:=by
 have hkid:FitL ((fauF t0 t1 l).map (·.1)):=by
  cases hF with
  | cons _ h _ _=>exact h
 have hsz:=hkid.short
 rw [fau_kids]at hkid hc hsz
 refine fault_able0 ?_ ?_ ?_ ?_ hk
 ·have:=hkid.all 0 (by simp)
  exact .leaf (.sym t0 0 this.short (this.txt (.inr rfl))) .nil
 ·have:=hkid.all 1 (by simp)
  unfold txF at this ⊢
  split at this
  ·rename_i e;rw [if_pos e];exact .leaf (.null 0) .nil
  ·rename_i e;rw [if_neg e];exact .leaf (.str t1 0 this.short (this.txt (.inl rfl))) .nil
 ·unfold mpF
  split
  ·exact .leaf (.null 0) .nil
  ·obtain⟨ps,rfl,h1,h2,h3,-⟩:=hM
   exact .map h1 h2 h3 .nil
 ·simp only [cnt,cnts]at hc hsz ⊢
  omega
theorem fault_cnts{t0 t1:List UInt8}{l:List V}{od:Int}(hc:cnt (.mk 21 0 [] ((fauF t0 t1 l).map (·.1)) 0 [.mk 5 29 [] [] od []])≤300):cnts l≤1000:=by
 rw [fau_kids]at hc
 unfold mpF at hc
 split at hc
 ·rename_i e;rw [e];simp [cnts]
 ·simp only [cnt,cnts]at hc
  omega
end Go.Proofs.YtfoegolfadhmjaaGreatDoor
namespace Go.Proofs.YtfoegolfadhmjaaGreatDoor
open Go.RowKit Go.WideShapes
theorem pairsC_of{w:World}(VC:Vld w):PairsC w:=fun m es clock qs h1 h2 h3 h4 h5=>pairs_is w VC m es clock qs h1 h2 h3 h4 h5
theorem cnts_perm2{ps qs:List (V×V)}(h:ps.Perm qs):cnts (flat2 ps)=cnts (flat2 qs):=by
 induction h with
 | nil=>rfl
 | cons x _ ih=>simp only [flat2,cnts,ih]
 | swap x y l=>simp only [flat2,cnts];omega
 | trans _ _ ih1 ih2=>rw [ih1,ih2]
theorem Sims.cnts{l m:List V}(h:Sims l m):Go.Proofs.YtfoegolfadhmjaaGreatDoor.cnts l=Go.Proofs.YtfoegolfadhmjaaGreatDoor.cnts m:=by
 induction h with
 | nil=>rfl
 | leaf hk hk' h0 hs ih=>simp only [Go.Proofs.YtfoegolfadhmjaaGreatDoor.cnts,cnt,ih]
 | list hk hs ih1 ih2=>simp only [Go.Proofs.YtfoegolfadhmjaaGreatDoor.cnts,cnt,ih1,ih2]
 | map hp h1 hk hs ih1 ih2=>simp only [Go.Proofs.YtfoegolfadhmjaaGreatDoor.cnts,cnt,ih2,cnts_perm2 hp,ih1]
 | arr hk h1 hsk hs ih1 ih2=>simp only [Go.Proofs.YtfoegolfadhmjaaGreatDoor.cnts,cnt,ih1,ih2]
theorem readBack{t0 t1:List UInt8}{l:List V}{od:Int}(hM:MapA (fun k=>k=19) l){ks:List V}{b r:List UInt8}(hk:PutK (fauF t0 t1 l) ks)(he:EncW [.mk 21 0 [] ks 0 [.mk 5 29 [] [] od []]] b)(w:World)(VC:Vld w)(v:Value)(hv:SlB w v (b++r))(hmax:(b++r).length≤1099511627776):
 Calls Tryz.prog 15 #[v] w fun e w'=>∃s' us rest,e=.returned (.tuple #[.agg #[.string ⟨t0.toArray⟩,.string ⟨t1.toArray⟩,s'],rest,.bool true])∧New w w'∧LM w' us s'∧SlB w' rest r∧Go.Proofs.YtfoegolfadhmjaaGreatDoor.cnts us=Go.Proofs.YtfoegolfadhmjaaGreatDoor.cnts l∧∀j (h:j<3),FS (fauF t0 t1 l)[j].2 (fauF t0 t1 l)[j].1 (fauF t0 t1 us)[j].1:=by
 have htd:=mapA_tidy hM
 obtain⟨ps,rfl,hi,hT,hn,-,-,-⟩:=hM.info
 obtain⟨n,d,lb,bs,rfl,hd,hh,hbn,h1,h3,hlen,f0,f1,f2,g1,g2⟩:=fault_law hk he hT hn
 have e:(0::(d++(lb++bs.flatten)))++r=0::(d++(lb++(bs.flatten++r))):=by simp
 rw [e]at hv hmax
 refine(readFault_is n od d lb r bs hd hh hbn h1 h3 hlen t0 t1 ps f0 f1 f2 g1 g2 hi w (fun w1 k1=>pairsC_of (VC.new k1)) v hv hmax).mono ?_
 rintro e w' ⟨s',us,qs,rest,rfl,k,hp,hs,hl,hdep⟩
 have hh:=hdep.here
 refine⟨s',us,rest,rfl,k,hh.1,hh.2,?_,fault_same hp (fun q hq=>?_) htd hs⟩
 ·rw [←hs.cnts,cnts_perm2 hp]
 ·have:=hT q hq
  unfold TextK at this
  omega
end Go.Proofs.YtfoegolfadhmjaaGreatDoor
namespace Go.Proofs.YtfoegolfadhmjaaGreatDoor
open Go.RowKit Go.WideShapes Go.Sort
theorem usual_val(N:Nat):N≤1000000→∀(v:V),cnt v≤N→Tidy [v]→∀(w:World) (x:Value),VM w v x→Calls Tryz.prog 138 #[x] w fun e w'=>∃y,e=.returned y∧New w w'∧Dep (fun b=>w.heap.size≤b) w' (fun w=>VM w (usualV v) y):=by
 induction N with
 | zero=>
   intro _ v h
   cases v
   simp only [cnt]at h
   omega
 | succ N ih=>
   intro hmx v hN hT w x hx
   obtain⟨k,n,t,ks,o,rfl,q1,q3⟩:=hT.inv
   by_cases hk:k=20
   ·subst hk
    obtain rfl:=q1 (by omega)
    exact usual_sym n t o w x hx
   by_cases hs1:k=23∧∃u,ks=[u]∧u.kind=20
   ·obtain⟨rfl,⟨k',n',t',ks',o',ds'⟩,rfl,hu⟩:=hs1
    simp only [V.kind]at hu
    subst hu
    exact usual_one n n' t t' ks' ds' o o' w x hx
   have q2:k=23→∀u,ks=[u]→u.kind≠20:=fun e u eu h=>hs1 ⟨e,u,eu,h⟩
   clear hs1
   obtain⟨sk0,sd,rfl,hn,hks,hds⟩:=hx.inv
   have HDS:=Lib.hid hds
   have HK:=Lib.hid hks
   obtain⟨A1,c1,rfl,-,-⟩:=hks.shape
   obtain⟨A2,c2,rfl,-,-⟩:=hds.shape
   have IH:=Lib.hid (ih (by omega))
   have TI:=Lib.hid q3
   have hNk:cnts ks≤N:=by simp only [cnt]at hN;omega
   have hmb:ks.length≤1000000:=by have:=len_cnts ks;omega
   have HU:=Lib.hid (usual_tidy (n:=n) (t:=t) (o:=o) q2 hk)
   have Q2:=Lib.hid q2
   clear hks hds hx ih q1 q2 q3 hT
   simp only [List.length_nil]at HDS ⊢
   obtain⟨m,hm⟩:∃m,m=ks.length:=⟨_,rfl⟩
   rw [←hm]at HK hmb ⊢
   have M1:=Lib.hid hm
   clear hm hN
   have t20:(k==20)=false:=by simpa using hk
   by_cases h21:k=21
   case pos=>
    subst h21
    go_enter Tryz.func138,Tryz.ntmps138
    go_wp2_with fail
    go_loopg [42] m (fun kk s42 wr=>∃(j:Nat) (sk:Value),j+kk=m∧s42=.int .i64 (j:Int)∧New w wr∧wr.heap[w.heap.size]? =some (.cells #[.int .i64 21,.int .u64 (n:Int),.string ⟨t.toArray⟩,.slice A1 m c1,.int .i64 o,.slice A2 0 c2] 78 (0,0))∧wr.heap[w.heap.size+1]? =some (.cells #[.int .i64 0,.int .u64 0,.string ⟨#[]⟩,.slice none 0 0,.int .i64 0,.slice none 0 0] 78 (0,0))∧wr.heap[w.heap.size+2]? =some (.cells #[.int .i64 21,.int .u64 (n:Int),.string ⟨t.toArray⟩,sk,.int .i64 o,.slice A2 0 c2] 78 (0,0))∧RowV wr (w.heap.size+3) sk (usualVs (ks.take j)))
    case atStart=>
     refine⟨0,.slice none 0 0,by omega,rfl,((((Keep.refl _ w).alloc _).alloc _).alloc _),blk_alloc (blk_alloc (blk_new w _) _) _,?_,?_,RowV.nil⟩
     ·exact blk_alloc (by simpa using blk_new (w.alloc (.cells #[.int .i64 21,.int .u64 (n:Int),.string ⟨t.toArray⟩,.slice A1 m c1,.int .i64 o,.slice A2 0 c2] 78)) (.cells #[.int .i64 0,.int .u64 0,.string ⟨#[]⟩,.slice none 0 0,.int .i64 0,.slice none 0 0] 78)) _
     ·simpa using blk_new ((w.alloc (.cells #[.int .i64 21,.int .u64 (n:Int),.string ⟨t.toArray⟩,.slice A1 m c1,.int .i64 o,.slice A2 0 c2] 78)).alloc (.cells #[.int .i64 0,.int .u64 0,.string ⟨#[]⟩,.slice none 0 0,.int .i64 0,.slice none 0 0] 78)) (.cells #[.int .i64 21,.int .u64 (n:Int),.string ⟨t.toArray⟩,.slice none 0 0,.int .i64 o,.slice A2 0 c2] 78)
    case round=>
     obtain⟨j,sk,hj,rfl,kr,h0,h1,h2,hrow⟩:=hrel
     obtain⟨A,cc,hsk⟩:=hrow.shape
     rw [usualVs_map,List.length_map,List.length_take]at hsk
     have hjm:min j ks.length=j:=by have:=M1.out;omega
     rw [hjm]at hsk
     subst hsk
     have HROW:=Lib.hid hrow
     clear hrow hjm
     rcases gk with _ | kk
     ·obtain rfl:j=m:=by omega
      have z0:=(blk_cell h0 0).trans rfl
      have z5:=(blk_cell h0 5).trans rfl
      have x0:=(blk_cell h1 0).trans rfl
      have x1:=(blk_cell h1 1).trans rfl
      have x2:=(blk_cell h1 2).trans rfl
      have x3:=(blk_cell h1 3).trans rfl
      have x4:=(blk_cell h1 4).trans rfl
      have x5:=(blk_cell h1 5).trans rfl
      have f0:=blk_free h1 0
      have f1:=blk_free h1 1
      have f2:=blk_free h1 2
      have f3:=blk_free h1 3
      have f4:=blk_free h1 4
      have f5:=blk_free h1 5
      have y0:=(blk_cell h2 0).trans rfl
      have y1:=(blk_cell h2 1).trans rfl
      have y2:=(blk_cell h2 2).trans rfl
      have y3:=(blk_cell h2 3).trans rfl
      have y4:=(blk_cell h2 4).trans rfl
      have y5:=(blk_cell h2 5).trans rfl
      clear h0 h1 h2
      go_wp2
      refine bodyPost_ret (v:=.agg #[.int .i64 21,.int .u64 (n:Int),.string ⟨t.toArray⟩,.slice A j cc,.int .i64 o,.slice A2 0 c2]) (by simp [results,Tryz.results138,go_sem,x0,x1,x2,x3,x4,x5]) rfl ⟨_,rfl,?_,?_⟩
      ·repeat (refine Keep.setCell ?_ (Or.inl (b:=¬True) (Nat.le_succ _)) _)
       exact kr
      ·rw [HU.out]
       have hl:=HROW.out.out
       rw [List.take_of_length_le (by have:=M1.out;omega)]at hl
       refine Dep.imp (φ:=fun w=>LM w (usualVs ks) (.slice A j cc)) ?_ fun w2 h=>VM.mk hn h HDS.out.empty
       refine Dep.mono (ok:=fun b=>w.heap.size+3≤b) ?_ (fun b _ hb=>by omega)
       refine Dep.keep (ok':=fun b=>b≠w.heap.size+1) hl ?_ (fun b _ hb=>by omega)
       repeat (refine Keep.setCell ?_ (Or.inr (by simp)) _)
       exact Keep.refl _ _
     ·have hjn:j<m:=by omega
      have tj:decide (j<m)=true:=by simpa using hjn
      have hj1:j<ks.length:=by rw [←M1.out];exact hjn
      obtain⟨d2,i2,hAe,-,-,-,hat⟩:=(HK.out.keep kr).at2 (fun h=>by rw [h]at hj1;simp at hj1)
      cases hAe
      obtain⟨e0,e1,e2,e3,e4,e5,hva,g0,g1,g2,g3,g4,g5⟩:=hat j hj1
      obtain⟨ek,en,et,A5,l5,c5,eo,A6,l6,c6,he⟩:=hva.parts
      simp only [Value.agg.injEq,Array.mk.injEq,List.cons.injEq,and_true]at he
      obtain⟨rfl,rfl,rfl,rfl,rfl,rfl⟩:=he
      have kE:=((Keep.refl (fun _=>True) wr).alloc (.cells #[.int .i64 ek,.int .u64 en,.string et,.slice A5 l5 c5,.int .i64 eo,.slice A6 l6 c6] 78)).drew
      have hcall:=IH.out ks[j] (Nat.le_trans (cnts_get ks j hj1) hNk) (TI.out.get j hj1) (wr.alloc (.cells #[.int .i64 ek,.int .u64 en,.string et,.slice A5 l5 c5,.int .i64 eo,.slice A6 l6 c6] 78)).drew _ (hva.keep kE)
      have HC:=Lib.hid hcall
      clear hva hat hcall
      have c3:wr.cell? ⟨w.heap.size+2,3,none⟩=some (.slice A j cc):=(blk_cell h2 3).trans rfl
      have c3a:=cell_alloc c3 (.cells #[.int .i64 ek,.int .u64 en,.string et,.slice A5 l5 c5,.int .i64 eo,.slice A6 l6 c6] 78)
      have hsz:=lt_blk h2
      have hrowA:=HROW.out.keep kE (fun _ _=>trivial)
      have hlenj:(usualVs (ks.take j)).length=j:=by rw [usualVs_map,List.length_map,List.length_take];omega
      have HLJ:=Lib.hid hlenj
      have hfar:=HROW.out.far
      have hlt:∀g,Value.ownBlock (.slice A j cc)=some g→g<wr.heap.size:=fun g hg=>HROW.out.ownLt hg
      clear hlenj
      go_wp2_with fail
      go_region_law
       (first | (go_simp;go_at_call 138;refine HC.out.mono ?_;rintro e w4 ⟨y,rfl,k4,hd4⟩;obtain⟨yk,yn,yt,A3,l3,c3',yo,A4,l4,c4,rfl⟩:=hd4.here.parts;have kY:=(Keep.refl (fun _=>True) w4).alloc (.cells #[.int .i64 yk,.int .u64 yn,.string yt,.slice A3 l3 c3',.int .i64 yo,.slice A4 l4 c4] 78);have e4s:=k4.size;have hrow4:=(hrowA.keep k4 (fun _ _=>trivial)).keep kY (fun _ _=>trivial);have c34:=k4.cell (show(wr.alloc (.cells #[.int .i64 ek,.int .u64 en,.string et,.slice A5 l5 c5,.int .i64 eo,.slice A6 l6 c6] 78)).drew.cell? _=_ from c3a) trivial;have c35:=cell_alloc c34 (.cells #[.int .i64 yk,.int .u64 yn,.string yt,.slice A3 l3 c3',.int .i64 yo,.slice A4 l4 c4] 78);obtain⟨g6,c6',w6,hap,hrow6,k6⟩:=hrow4.step (vs:=[usualV ks[j]]) w4.heap.size 0 1 [.int .i64 yk,.int .u64 yn,.string yt,.slice A3 l3 c3',.int .i64 yo,.slice A4 l4 c4] (fun q z hq=>by rw [blk_cell (blk_new w4 (.cells #[.int .i64 yk,.int .u64 yn,.string yt,.slice A3 l3 c3',.int .i64 yo,.slice A4 l4 c4] 78)),Nat.zero_add];simpa using hq) ((hd4.imp fun _ h=>h.mem).step kY.size (fun i hi _=>kY.block i hi trivial) (fun z hz hb=>⟨by simp at hb e4s;omega,fun e=>by have:=hlt _ e.symm;simp at hb;omega⟩)) (by simp) (by rw [HLJ.out];simp;omega) (by simp at e4s ⊢;omega);rw [HLJ.out]at hap hrow6;simp only [List.length_singleton]at hap hrow6;have kall:=(kE.trans k4).trans kY;have h26:=k6.blk (kall.blk h2 trivial) (hfar _ (by omega));have f6:=blk_free h26 3;have c36:w6.cell? ⟨w.heap.size+2,3,none⟩=some (.slice A j cc):=(blk_cell h26 3).trans rfl) | (refine step_append_eq hap (by rfl) _ _ (by rfl) (by rfl) (by rfl) ?_))
      all_goals
       go_wp2
       go_roundg kk
       case measure=>omega
       case rel=>
        have hl6:=lt_blk h26
        refine⟨j+1,.slice (some ⟨g6,0,none⟩) (j+1) c6',by omega,congrArg _ (by omega),((kr.trans kall).then k6 (fun i hi _=>hfar i (by omega))).setCell (p:=⟨w.heap.size+2,3,none⟩) (Or.inl (b:=¬True) (by simp)) _,?_,?_,?_,?_⟩
        ·exact blk_far (k6.blk (kall.blk h0 trivial) (hfar _ (by omega))) (p:=⟨w.heap.size+2,3,none⟩) (by simp) _
        ·exact blk_far (k6.blk (kall.blk h1 trivial) (hfar _ (by omega))) (p:=⟨w.heap.size+2,3,none⟩) (by simp) _
        ·exact(blk_set h26 3 _).trans (by simp)
        ·rw [usualVs_take_succ ks j hj1]
         exact hrow6.keep ((Keep.refl (fun b=>b≠w.heap.size+2) w6).setCell (p:=⟨w.heap.size+2,3,none⟩) (.inr (by simp)) _) (fun b hb=>by show b≠w.heap.size+2;omega)
   have t21:(k==21)=false:=by simpa using h21
   by_cases h23:k=23
   case neg=>
    have t23:(k==23)=false:=by simpa using h23
    go_enter Tryz.func138,Tryz.ntmps138
    go_wp2_with fail
    go_loopg [42] m (fun kk s42 wr=>∃(j:Nat) (sk:Value),j+kk=m∧s42=.int .i64 (j:Int)∧New w wr∧wr.heap[w.heap.size]? =some (.cells #[.int .i64 k,.int .u64 (n:Int),.string ⟨t.toArray⟩,.slice A1 m c1,.int .i64 o,.slice A2 0 c2] 78 (0,0))∧wr.heap[w.heap.size+1]? =some (.cells #[.int .i64 0,.int .u64 0,.string ⟨#[]⟩,.slice none 0 0,.int .i64 0,.slice none 0 0] 78 (0,0))∧wr.heap[w.heap.size+2]? =some (.cells #[.int .i64 k,.int .u64 (n:Int),.string ⟨t.toArray⟩,sk,.int .i64 o,.slice A2 0 c2] 78 (0,0))∧RowV wr (w.heap.size+3) sk (usualVs (ks.take j)))
    case atStart=>
     refine⟨0,.slice none 0 0,by omega,rfl,((((Keep.refl _ w).alloc _).alloc _).alloc _),blk_alloc (blk_alloc (blk_new w _) _) _,?_,?_,RowV.nil⟩
     ·exact blk_alloc (by simpa using blk_new (w.alloc (.cells #[.int .i64 k,.int .u64 (n:Int),.string ⟨t.toArray⟩,.slice A1 m c1,.int .i64 o,.slice A2 0 c2] 78)) (.cells #[.int .i64 0,.int .u64 0,.string ⟨#[]⟩,.slice none 0 0,.int .i64 0,.slice none 0 0] 78)) _
     ·simpa using blk_new ((w.alloc (.cells #[.int .i64 k,.int .u64 (n:Int),.string ⟨t.toArray⟩,.slice A1 m c1,.int .i64 o,.slice A2 0 c2] 78)).alloc (.cells #[.int .i64 0,.int .u64 0,.string ⟨#[]⟩,.slice none 0 0,.int .i64 0,.slice none 0 0] 78)) (.cells #[.int .i64 k,.int .u64 (n:Int),.string ⟨t.toArray⟩,.slice none 0 0,.int .i64 o,.slice A2 0 c2] 78)
    case round=>
     obtain⟨j,sk,hj,rfl,kr,h0,h1,h2,hrow⟩:=hrel
     obtain⟨A,cc,hsk⟩:=hrow.shape
     rw [usualVs_map,List.length_map,List.length_take]at hsk
     have hjm:min j ks.length=j:=by have:=M1.out;omega
     rw [hjm]at hsk
     subst hsk
     have HROW:=Lib.hid hrow
     clear hrow hjm
     rcases gk with _ | kk
     ·obtain rfl:j=m:=by omega
      have z0:=(blk_cell h0 0).trans rfl
      have z5:=(blk_cell h0 5).trans rfl
      have x0:=(blk_cell h1 0).trans rfl
      have x1:=(blk_cell h1 1).trans rfl
      have x2:=(blk_cell h1 2).trans rfl
      have x3:=(blk_cell h1 3).trans rfl
      have x4:=(blk_cell h1 4).trans rfl
      have x5:=(blk_cell h1 5).trans rfl
      have f0:=blk_free h1 0
      have f1:=blk_free h1 1
      have f2:=blk_free h1 2
      have f3:=blk_free h1 3
      have f4:=blk_free h1 4
      have f5:=blk_free h1 5
      have y0:=(blk_cell h2 0).trans rfl
      have y1:=(blk_cell h2 1).trans rfl
      have y2:=(blk_cell h2 2).trans rfl
      have y3:=(blk_cell h2 3).trans rfl
      have y4:=(blk_cell h2 4).trans rfl
      have y5:=(blk_cell h2 5).trans rfl
      clear h0 h1 h2
      go_wp2
      refine bodyPost_ret (v:=.agg #[.int .i64 k,.int .u64 (n:Int),.string ⟨t.toArray⟩,.slice A j cc,.int .i64 o,.slice A2 0 c2]) (by simp [results,Tryz.results138,go_sem,x0,x1,x2,x3,x4,x5]) rfl ⟨_,rfl,?_,?_⟩
      ·repeat (refine Keep.setCell ?_ (Or.inl (b:=¬True) (Nat.le_succ _)) _)
       exact kr
      ·rw [HU.out]
       have hl:=HROW.out.out
       rw [List.take_of_length_le (by have:=M1.out;omega)]at hl
       refine Dep.imp (φ:=fun w=>LM w (usualVs ks) (.slice A j cc)) ?_ fun w2 h=>VM.mk hn h HDS.out.empty
       refine Dep.mono (ok:=fun b=>w.heap.size+3≤b) ?_ (fun b _ hb=>by omega)
       refine Dep.keep (ok':=fun b=>b≠w.heap.size+1) hl ?_ (fun b _ hb=>by omega)
       repeat (refine Keep.setCell ?_ (Or.inr (by simp)) _)
       exact Keep.refl _ _
     ·have hjn:j<m:=by omega
      have tj:decide (j<m)=true:=by simpa using hjn
      have hj1:j<ks.length:=by rw [←M1.out];exact hjn
      obtain⟨d2,i2,hAe,-,-,-,hat⟩:=(HK.out.keep kr).at2 (fun h=>by rw [h]at hj1;simp at hj1)
      cases hAe
      obtain⟨e0,e1,e2,e3,e4,e5,hva,g0,g1,g2,g3,g4,g5⟩:=hat j hj1
      obtain⟨ek,en,et,A5,l5,c5,eo,A6,l6,c6,he⟩:=hva.parts
      simp only [Value.agg.injEq,Array.mk.injEq,List.cons.injEq,and_true]at he
      obtain⟨rfl,rfl,rfl,rfl,rfl,rfl⟩:=he
      have kE:=((Keep.refl (fun _=>True) wr).alloc (.cells #[.int .i64 ek,.int .u64 en,.string et,.slice A5 l5 c5,.int .i64 eo,.slice A6 l6 c6] 78)).drew
      have hcall:=IH.out ks[j] (Nat.le_trans (cnts_get ks j hj1) hNk) (TI.out.get j hj1) (wr.alloc (.cells #[.int .i64 ek,.int .u64 en,.string et,.slice A5 l5 c5,.int .i64 eo,.slice A6 l6 c6] 78)).drew _ (hva.keep kE)
      have HC:=Lib.hid hcall
      clear hva hat hcall
      have c3:wr.cell? ⟨w.heap.size+2,3,none⟩=some (.slice A j cc):=(blk_cell h2 3).trans rfl
      have c3a:=cell_alloc c3 (.cells #[.int .i64 ek,.int .u64 en,.string et,.slice A5 l5 c5,.int .i64 eo,.slice A6 l6 c6] 78)
      have hsz:=lt_blk h2
      have hrowA:=HROW.out.keep kE (fun _ _=>trivial)
      have hlenj:(usualVs (ks.take j)).length=j:=by rw [usualVs_map,List.length_map,List.length_take];omega
      have HLJ:=Lib.hid hlenj
      have hfar:=HROW.out.far
      have hlt:∀g,Value.ownBlock (.slice A j cc)=some g→g<wr.heap.size:=fun g hg=>HROW.out.ownLt hg
      clear hlenj
      go_wp2_with fail
      go_region_law
       (first | (go_simp;go_at_call 138;refine HC.out.mono ?_;rintro e w4 ⟨y,rfl,k4,hd4⟩;obtain⟨yk,yn,yt,A3,l3,c3',yo,A4,l4,c4,rfl⟩:=hd4.here.parts;have kY:=(Keep.refl (fun _=>True) w4).alloc (.cells #[.int .i64 yk,.int .u64 yn,.string yt,.slice A3 l3 c3',.int .i64 yo,.slice A4 l4 c4] 78);have e4s:=k4.size;have hrow4:=(hrowA.keep k4 (fun _ _=>trivial)).keep kY (fun _ _=>trivial);have c34:=k4.cell (show(wr.alloc (.cells #[.int .i64 ek,.int .u64 en,.string et,.slice A5 l5 c5,.int .i64 eo,.slice A6 l6 c6] 78)).drew.cell? _=_ from c3a) trivial;have c35:=cell_alloc c34 (.cells #[.int .i64 yk,.int .u64 yn,.string yt,.slice A3 l3 c3',.int .i64 yo,.slice A4 l4 c4] 78);obtain⟨g6,c6',w6,hap,hrow6,k6⟩:=hrow4.step (vs:=[usualV ks[j]]) w4.heap.size 0 1 [.int .i64 yk,.int .u64 yn,.string yt,.slice A3 l3 c3',.int .i64 yo,.slice A4 l4 c4] (fun q z hq=>by rw [blk_cell (blk_new w4 (.cells #[.int .i64 yk,.int .u64 yn,.string yt,.slice A3 l3 c3',.int .i64 yo,.slice A4 l4 c4] 78)),Nat.zero_add];simpa using hq) ((hd4.imp fun _ h=>h.mem).step kY.size (fun i hi _=>kY.block i hi trivial) (fun z hz hb=>⟨by simp at hb e4s;omega,fun e=>by have:=hlt _ e.symm;simp at hb;omega⟩)) (by simp) (by rw [HLJ.out];simp;omega) (by simp at e4s ⊢;omega);rw [HLJ.out]at hap hrow6;simp only [List.length_singleton]at hap hrow6;have kall:=(kE.trans k4).trans kY;have h26:=k6.blk (kall.blk h2 trivial) (hfar _ (by omega));have f6:=blk_free h26 3;have c36:w6.cell? ⟨w.heap.size+2,3,none⟩=some (.slice A j cc):=(blk_cell h26 3).trans rfl) | (refine step_append_eq hap (by rfl) _ _ (by rfl) (by rfl) (by rfl) ?_))
      all_goals
       go_wp2
       go_roundg kk
       case measure=>omega
       case rel=>
        have hl6:=lt_blk h26
        refine⟨j+1,.slice (some ⟨g6,0,none⟩) (j+1) c6',by omega,congrArg _ (by omega),((kr.trans kall).then k6 (fun i hi _=>hfar i (by omega))).setCell (p:=⟨w.heap.size+2,3,none⟩) (Or.inl (b:=¬True) (by simp)) _,?_,?_,?_,?_⟩
        ·exact blk_far (k6.blk (kall.blk h0 trivial) (hfar _ (by omega))) (p:=⟨w.heap.size+2,3,none⟩) (by simp) _
        ·exact blk_far (k6.blk (kall.blk h1 trivial) (hfar _ (by omega))) (p:=⟨w.heap.size+2,3,none⟩) (by simp) _
        ·exact(blk_set h26 3 _).trans (by simp)
        ·rw [usualVs_take_succ ks j hj1]
         exact hrow6.keep ((Keep.refl (fun b=>b≠w.heap.size+2) w6).setCell (p:=⟨w.heap.size+2,3,none⟩) (.inr (by simp)) _) (fun b hb=>by show b≠w.heap.size+2;omega)
   subst h23
   by_cases hm1:m=1
   case neg=>
    have t1:((m:Int)==1)=false:=by simp;omega
    go_enter Tryz.func138,Tryz.ntmps138
    go_wp2_with fail
    go_loopg [42] m (fun kk s42 wr=>∃(j:Nat) (sk:Value),j+kk=m∧s42=.int .i64 (j:Int)∧New w wr∧wr.heap[w.heap.size]? =some (.cells #[.int .i64 23,.int .u64 (n:Int),.string ⟨t.toArray⟩,.slice A1 m c1,.int .i64 o,.slice A2 0 c2] 78 (0,0))∧wr.heap[w.heap.size+1]? =some (.cells #[.int .i64 0,.int .u64 0,.string ⟨#[]⟩,.slice none 0 0,.int .i64 0,.slice none 0 0] 78 (0,0))∧wr.heap[w.heap.size+2]? =some (.cells #[.int .i64 23,.int .u64 (n:Int),.string ⟨t.toArray⟩,sk,.int .i64 o,.slice A2 0 c2] 78 (0,0))∧RowV wr (w.heap.size+3) sk (usualVs (ks.take j)))
    case atStart=>
     refine⟨0,.slice none 0 0,by omega,rfl,((((Keep.refl _ w).alloc _).alloc _).alloc _),blk_alloc (blk_alloc (blk_new w _) _) _,?_,?_,RowV.nil⟩
     ·exact blk_alloc (by simpa using blk_new (w.alloc (.cells #[.int .i64 23,.int .u64 (n:Int),.string ⟨t.toArray⟩,.slice A1 m c1,.int .i64 o,.slice A2 0 c2] 78)) (.cells #[.int .i64 0,.int .u64 0,.string ⟨#[]⟩,.slice none 0 0,.int .i64 0,.slice none 0 0] 78)) _
     ·simpa using blk_new ((w.alloc (.cells #[.int .i64 23,.int .u64 (n:Int),.string ⟨t.toArray⟩,.slice A1 m c1,.int .i64 o,.slice A2 0 c2] 78)).alloc (.cells #[.int .i64 0,.int .u64 0,.string ⟨#[]⟩,.slice none 0 0,.int .i64 0,.slice none 0 0] 78)) (.cells #[.int .i64 23,.int .u64 (n:Int),.string ⟨t.toArray⟩,.slice none 0 0,.int .i64 o,.slice A2 0 c2] 78)
    case round=>
     obtain⟨j,sk,hj,rfl,kr,h0,h1,h2,hrow⟩:=hrel
     obtain⟨A,cc,hsk⟩:=hrow.shape
     rw [usualVs_map,List.length_map,List.length_take]at hsk
     have hjm:min j ks.length=j:=by have:=M1.out;omega
     rw [hjm]at hsk
     subst hsk
     have HROW:=Lib.hid hrow
     clear hrow hjm
     rcases gk with _ | kk
     ·obtain rfl:j=m:=by omega
      have z0:=(blk_cell h0 0).trans rfl
      have z5:=(blk_cell h0 5).trans rfl
      have x0:=(blk_cell h1 0).trans rfl
      have x1:=(blk_cell h1 1).trans rfl
      have x2:=(blk_cell h1 2).trans rfl
      have x3:=(blk_cell h1 3).trans rfl
      have x4:=(blk_cell h1 4).trans rfl
      have x5:=(blk_cell h1 5).trans rfl
      have f0:=blk_free h1 0
      have f1:=blk_free h1 1
      have f2:=blk_free h1 2
      have f3:=blk_free h1 3
      have f4:=blk_free h1 4
      have f5:=blk_free h1 5
      have y0:=(blk_cell h2 0).trans rfl
      have y1:=(blk_cell h2 1).trans rfl
      have y2:=(blk_cell h2 2).trans rfl
      have y3:=(blk_cell h2 3).trans rfl
      have y4:=(blk_cell h2 4).trans rfl
      have y5:=(blk_cell h2 5).trans rfl
      clear h0 h1 h2
      go_wp2
      refine bodyPost_ret (v:=.agg #[.int .i64 23,.int .u64 (n:Int),.string ⟨t.toArray⟩,.slice A j cc,.int .i64 o,.slice A2 0 c2]) (by simp [results,Tryz.results138,go_sem,x0,x1,x2,x3,x4,x5]) rfl ⟨_,rfl,?_,?_⟩
      ·repeat (refine Keep.setCell ?_ (Or.inl (b:=¬True) (Nat.le_succ _)) _)
       exact kr
      ·rw [HU.out]
       have hl:=HROW.out.out
       rw [List.take_of_length_le (by have:=M1.out;omega)]at hl
       refine Dep.imp (φ:=fun w=>LM w (usualVs ks) (.slice A j cc)) ?_ fun w2 h=>VM.mk hn h HDS.out.empty
       refine Dep.mono (ok:=fun b=>w.heap.size+3≤b) ?_ (fun b _ hb=>by omega)
       refine Dep.keep (ok':=fun b=>b≠w.heap.size+1) hl ?_ (fun b _ hb=>by omega)
       repeat (refine Keep.setCell ?_ (Or.inr (by simp)) _)
       exact Keep.refl _ _
     ·have hjn:j<m:=by omega
      have tj:decide (j<m)=true:=by simpa using hjn
      have hj1:j<ks.length:=by rw [←M1.out];exact hjn
      obtain⟨d2,i2,hAe,-,-,-,hat⟩:=(HK.out.keep kr).at2 (fun h=>by rw [h]at hj1;simp at hj1)
      cases hAe
      obtain⟨e0,e1,e2,e3,e4,e5,hva,g0,g1,g2,g3,g4,g5⟩:=hat j hj1
      obtain⟨ek,en,et,A5,l5,c5,eo,A6,l6,c6,he⟩:=hva.parts
      simp only [Value.agg.injEq,Array.mk.injEq,List.cons.injEq,and_true]at he
      obtain⟨rfl,rfl,rfl,rfl,rfl,rfl⟩:=he
      have kE:=((Keep.refl (fun _=>True) wr).alloc (.cells #[.int .i64 ek,.int .u64 en,.string et,.slice A5 l5 c5,.int .i64 eo,.slice A6 l6 c6] 78)).drew
      have hcall:=IH.out ks[j] (Nat.le_trans (cnts_get ks j hj1) hNk) (TI.out.get j hj1) (wr.alloc (.cells #[.int .i64 ek,.int .u64 en,.string et,.slice A5 l5 c5,.int .i64 eo,.slice A6 l6 c6] 78)).drew _ (hva.keep kE)
      have HC:=Lib.hid hcall
      clear hva hat hcall
      have c3:wr.cell? ⟨w.heap.size+2,3,none⟩=some (.slice A j cc):=(blk_cell h2 3).trans rfl
      have c3a:=cell_alloc c3 (.cells #[.int .i64 ek,.int .u64 en,.string et,.slice A5 l5 c5,.int .i64 eo,.slice A6 l6 c6] 78)
      have hsz:=lt_blk h2
      have hrowA:=HROW.out.keep kE (fun _ _=>trivial)
      have hlenj:(usualVs (ks.take j)).length=j:=by rw [usualVs_map,List.length_map,List.length_take];omega
      have HLJ:=Lib.hid hlenj
      have hfar:=HROW.out.far
      have hlt:∀g,Value.ownBlock (.slice A j cc)=some g→g<wr.heap.size:=fun g hg=>HROW.out.ownLt hg
      clear hlenj
      go_wp2_with fail
      go_region_law
       (first | (go_simp;go_at_call 138;refine HC.out.mono ?_;rintro e w4 ⟨y,rfl,k4,hd4⟩;obtain⟨yk,yn,yt,A3,l3,c3',yo,A4,l4,c4,rfl⟩:=hd4.here.parts;have kY:=(Keep.refl (fun _=>True) w4).alloc (.cells #[.int .i64 yk,.int .u64 yn,.string yt,.slice A3 l3 c3',.int .i64 yo,.slice A4 l4 c4] 78);have e4s:=k4.size;have hrow4:=(hrowA.keep k4 (fun _ _=>trivial)).keep kY (fun _ _=>trivial);have c34:=k4.cell (show(wr.alloc (.cells #[.int .i64 ek,.int .u64 en,.string et,.slice A5 l5 c5,.int .i64 eo,.slice A6 l6 c6] 78)).drew.cell? _=_ from c3a) trivial;have c35:=cell_alloc c34 (.cells #[.int .i64 yk,.int .u64 yn,.string yt,.slice A3 l3 c3',.int .i64 yo,.slice A4 l4 c4] 78);obtain⟨g6,c6',w6,hap,hrow6,k6⟩:=hrow4.step (vs:=[usualV ks[j]]) w4.heap.size 0 1 [.int .i64 yk,.int .u64 yn,.string yt,.slice A3 l3 c3',.int .i64 yo,.slice A4 l4 c4] (fun q z hq=>by rw [blk_cell (blk_new w4 (.cells #[.int .i64 yk,.int .u64 yn,.string yt,.slice A3 l3 c3',.int .i64 yo,.slice A4 l4 c4] 78)),Nat.zero_add];simpa using hq) ((hd4.imp fun _ h=>h.mem).step kY.size (fun i hi _=>kY.block i hi trivial) (fun z hz hb=>⟨by simp at hb e4s;omega,fun e=>by have:=hlt _ e.symm;simp at hb;omega⟩)) (by simp) (by rw [HLJ.out];simp;omega) (by simp at e4s ⊢;omega);rw [HLJ.out]at hap hrow6;simp only [List.length_singleton]at hap hrow6;have kall:=(kE.trans k4).trans kY;have h26:=k6.blk (kall.blk h2 trivial) (hfar _ (by omega));have f6:=blk_free h26 3;have c36:w6.cell? ⟨w.heap.size+2,3,none⟩=some (.slice A j cc):=(blk_cell h26 3).trans rfl) | (refine step_append_eq hap (by rfl) _ _ (by rfl) (by rfl) (by rfl) ?_))
      all_goals
       go_wp2
       go_roundg kk
       case measure=>omega
       case rel=>
        have hl6:=lt_blk h26
        refine⟨j+1,.slice (some ⟨g6,0,none⟩) (j+1) c6',by omega,congrArg _ (by omega),((kr.trans kall).then k6 (fun i hi _=>hfar i (by omega))).setCell (p:=⟨w.heap.size+2,3,none⟩) (Or.inl (b:=¬True) (by simp)) _,?_,?_,?_,?_⟩
        ·exact blk_far (k6.blk (kall.blk h0 trivial) (hfar _ (by omega))) (p:=⟨w.heap.size+2,3,none⟩) (by simp) _
        ·exact blk_far (k6.blk (kall.blk h1 trivial) (hfar _ (by omega))) (p:=⟨w.heap.size+2,3,none⟩) (by simp) _
        ·exact(blk_set h26 3 _).trans (by simp)
        ·rw [usualVs_take_succ ks j hj1]
         exact hrow6.keep ((Keep.refl (fun b=>b≠w.heap.size+2) w6).setCell (p:=⟨w.heap.size+2,3,none⟩) (.inr (by simp)) _) (fun b hb=>by show b≠w.heap.size+2;omega)
   subst hm1
   obtain⟨d,i,rfl,-,-,-,hat⟩:=HK.out.at2 (fun h=>by have:=M1.out;rw [h]at this;simp at this)
   have hl0:0<ks.length:=by rw [←M1.out];omega
   obtain⟨a0,a1,a2,a3,a4,a5,hva,g0,g1,g2,g3,g4,g5⟩:=hat 0 hl0
   have hkind:∃k':Int,a0=.int .i64 k'∧(k'==20)=false:=by
    have:=Q2.out rfl ks[0] (by
     have h:=M1.out
     match ks,h with
     | [u],_=>rfl)
    generalize ks[0]=u at hva this
    obtain⟨k',n',t',ks',o',ds'⟩:=u
    obtain⟨sk,sd,he,_⟩:=hva.inv
    simp only [Value.agg.injEq,Array.mk.injEq,List.cons.injEq,and_true]at he
    exact⟨k',he.1,by simpa [V.kind]using this⟩
   obtain⟨k',rfl,t20'⟩:=hkind
   simp only [Nat.zero_mul,Nat.add_zero]at g0
   have g0A:=fun o1 o2 o3=>cell_alloc (cell_alloc (cell_alloc g0 o1) o2) o3
   clear hat hva g0 g1 g2 g3 g4 g5
   go_enter Tryz.func138,Tryz.ntmps138
   go_wp2_with fail
   go_loopg [42] 1 (fun kk s42 wr=>∃(j:Nat) (sk:Value),j+kk=1∧s42=.int .i64 (j:Int)∧New w wr∧wr.heap[w.heap.size]? =some (.cells #[.int .i64 23,.int .u64 (n:Int),.string ⟨t.toArray⟩,.slice (some ⟨d,i,none⟩) 1 c1,.int .i64 o,.slice A2 0 c2] 78 (0,0))∧wr.heap[w.heap.size+1]? =some (.cells #[.int .i64 0,.int .u64 0,.string ⟨#[]⟩,.slice none 0 0,.int .i64 0,.slice none 0 0] 78 (0,0))∧wr.heap[w.heap.size+2]? =some (.cells #[.int .i64 23,.int .u64 (n:Int),.string ⟨t.toArray⟩,sk,.int .i64 o,.slice A2 0 c2] 78 (0,0))∧RowV wr (w.heap.size+3) sk (usualVs (ks.take j)))
   case atStart=>
    refine⟨0,.slice none 0 0,by omega,rfl,((((Keep.refl _ w).alloc _).alloc _).alloc _),blk_alloc (blk_alloc (blk_new w _) _) _,?_,?_,RowV.nil⟩
    ·exact blk_alloc (by simpa using blk_new (w.alloc (.cells #[.int .i64 23,.int .u64 (n:Int),.string ⟨t.toArray⟩,.slice (some ⟨d,i,none⟩) 1 c1,.int .i64 o,.slice A2 0 c2] 78)) (.cells #[.int .i64 0,.int .u64 0,.string ⟨#[]⟩,.slice none 0 0,.int .i64 0,.slice none 0 0] 78)) _
    ·simpa using blk_new ((w.alloc (.cells #[.int .i64 23,.int .u64 (n:Int),.string ⟨t.toArray⟩,.slice (some ⟨d,i,none⟩) 1 c1,.int .i64 o,.slice A2 0 c2] 78)).alloc (.cells #[.int .i64 0,.int .u64 0,.string ⟨#[]⟩,.slice none 0 0,.int .i64 0,.slice none 0 0] 78)) (.cells #[.int .i64 23,.int .u64 (n:Int),.string ⟨t.toArray⟩,.slice none 0 0,.int .i64 o,.slice A2 0 c2] 78)
   case round=>
    obtain⟨j,sk,hj,rfl,kr,h0,h1,h2,hrow⟩:=hrel
    obtain⟨A,cc,hsk⟩:=hrow.shape
    rw [usualVs_map,List.length_map,List.length_take]at hsk
    have hjm:min j ks.length=j:=by have:=M1.out;omega
    rw [hjm]at hsk
    subst hsk
    have HROW:=Lib.hid hrow
    clear hrow hjm
    rcases gk with _ | kk
    ·obtain rfl:j=1:=by omega
     have z0:=(blk_cell h0 0).trans rfl
     have z5:=(blk_cell h0 5).trans rfl
     have x0:=(blk_cell h1 0).trans rfl
     have x1:=(blk_cell h1 1).trans rfl
     have x2:=(blk_cell h1 2).trans rfl
     have x3:=(blk_cell h1 3).trans rfl
     have x4:=(blk_cell h1 4).trans rfl
     have x5:=(blk_cell h1 5).trans rfl
     have f0:=blk_free h1 0
     have f1:=blk_free h1 1
     have f2:=blk_free h1 2
     have f3:=blk_free h1 3
     have f4:=blk_free h1 4
     have f5:=blk_free h1 5
     have y0:=(blk_cell h2 0).trans rfl
     have y1:=(blk_cell h2 1).trans rfl
     have y2:=(blk_cell h2 2).trans rfl
     have y3:=(blk_cell h2 3).trans rfl
     have y4:=(blk_cell h2 4).trans rfl
     have y5:=(blk_cell h2 5).trans rfl
     clear h0 h1 h2
     go_wp2
     refine bodyPost_ret (v:=.agg #[.int .i64 23,.int .u64 (n:Int),.string ⟨t.toArray⟩,.slice A 1 cc,.int .i64 o,.slice A2 0 c2]) (by simp [results,Tryz.results138,go_sem,x0,x1,x2,x3,x4,x5]) rfl ⟨_,rfl,?_,?_⟩
     ·repeat (refine Keep.setCell ?_ (Or.inl (b:=¬True) (Nat.le_succ _)) _)
      exact kr
     ·rw [HU.out]
      have hl:=HROW.out.out
      rw [List.take_of_length_le (by have:=M1.out;omega)]at hl
      refine Dep.imp (φ:=fun w=>LM w (usualVs ks) (.slice A 1 cc)) ?_ fun w2 h=>VM.mk hn h HDS.out.empty
      refine Dep.mono (ok:=fun b=>w.heap.size+3≤b) ?_ (fun b _ hb=>by omega)
      refine Dep.keep (ok':=fun b=>b≠w.heap.size+1) hl ?_ (fun b _ hb=>by omega)
      repeat (refine Keep.setCell ?_ (Or.inr (by simp)) _)
      exact Keep.refl _ _
    ·have hjn:j<1:=by omega
     have tj:decide (j<1)=true:=by simpa using hjn
     have hj1:j<ks.length:=by rw [←M1.out];exact hjn
     obtain⟨d2,i2,hAe,-,-,-,hat⟩:=(HK.out.keep kr).at2 (fun h=>by rw [h]at hj1;simp at hj1)
     cases hAe
     obtain⟨e0,e1,e2,e3,e4,e5,hva,g0,g1,g2,g3,g4,g5⟩:=hat j hj1
     obtain⟨ek,en,et,A5,l5,c5,eo,A6,l6,c6,he⟩:=hva.parts
     simp only [Value.agg.injEq,Array.mk.injEq,List.cons.injEq,and_true]at he
     obtain⟨rfl,rfl,rfl,rfl,rfl,rfl⟩:=he
     have kE:=((Keep.refl (fun _=>True) wr).alloc (.cells #[.int .i64 ek,.int .u64 en,.string et,.slice A5 l5 c5,.int .i64 eo,.slice A6 l6 c6] 78)).drew
     have hcall:=IH.out ks[j] (Nat.le_trans (cnts_get ks j hj1) hNk) (TI.out.get j hj1) (wr.alloc (.cells #[.int .i64 ek,.int .u64 en,.string et,.slice A5 l5 c5,.int .i64 eo,.slice A6 l6 c6] 78)).drew _ (hva.keep kE)
     have HC:=Lib.hid hcall
     clear hva hat hcall
     have c3:wr.cell? ⟨w.heap.size+2,3,none⟩=some (.slice A j cc):=(blk_cell h2 3).trans rfl
     have c3a:=cell_alloc c3 (.cells #[.int .i64 ek,.int .u64 en,.string et,.slice A5 l5 c5,.int .i64 eo,.slice A6 l6 c6] 78)
     have hsz:=lt_blk h2
     have hrowA:=HROW.out.keep kE (fun _ _=>trivial)
     have hlenj:(usualVs (ks.take j)).length=j:=by rw [usualVs_map,List.length_map,List.length_take];omega
     have HLJ:=Lib.hid hlenj
     have hfar:=HROW.out.far
     have hlt:∀g,Value.ownBlock (.slice A j cc)=some g→g<wr.heap.size:=fun g hg=>HROW.out.ownLt hg
     clear hlenj
     go_wp2_with fail
     go_region_law
      (first | (go_simp;go_at_call 138;refine HC.out.mono ?_;rintro e w4 ⟨y,rfl,k4,hd4⟩;obtain⟨yk,yn,yt,A3,l3,c3',yo,A4,l4,c4,rfl⟩:=hd4.here.parts;have kY:=(Keep.refl (fun _=>True) w4).alloc (.cells #[.int .i64 yk,.int .u64 yn,.string yt,.slice A3 l3 c3',.int .i64 yo,.slice A4 l4 c4] 78);have e4s:=k4.size;have hrow4:=(hrowA.keep k4 (fun _ _=>trivial)).keep kY (fun _ _=>trivial);have c34:=k4.cell (show(wr.alloc (.cells #[.int .i64 ek,.int .u64 en,.string et,.slice A5 l5 c5,.int .i64 eo,.slice A6 l6 c6] 78)).drew.cell? _=_ from c3a) trivial;have c35:=cell_alloc c34 (.cells #[.int .i64 yk,.int .u64 yn,.string yt,.slice A3 l3 c3',.int .i64 yo,.slice A4 l4 c4] 78);obtain⟨g6,c6',w6,hap,hrow6,k6⟩:=hrow4.step (vs:=[usualV ks[j]]) w4.heap.size 0 1 [.int .i64 yk,.int .u64 yn,.string yt,.slice A3 l3 c3',.int .i64 yo,.slice A4 l4 c4] (fun q z hq=>by rw [blk_cell (blk_new w4 (.cells #[.int .i64 yk,.int .u64 yn,.string yt,.slice A3 l3 c3',.int .i64 yo,.slice A4 l4 c4] 78)),Nat.zero_add];simpa using hq) ((hd4.imp fun _ h=>h.mem).step kY.size (fun i hi _=>kY.block i hi trivial) (fun z hz hb=>⟨by simp at hb e4s;omega,fun e=>by have:=hlt _ e.symm;simp at hb;omega⟩)) (by simp) (by rw [HLJ.out];simp;omega) (by simp at e4s ⊢;omega);rw [HLJ.out]at hap hrow6;simp only [List.length_singleton]at hap hrow6;have kall:=(kE.trans k4).trans kY;have h26:=k6.blk (kall.blk h2 trivial) (hfar _ (by omega));have f6:=blk_free h26 3;have c36:w6.cell? ⟨w.heap.size+2,3,none⟩=some (.slice A j cc):=(blk_cell h26 3).trans rfl) | (refine step_append_eq hap (by rfl) _ _ (by rfl) (by rfl) (by rfl) ?_))
     all_goals
      go_wp2
      go_roundg kk
      case measure=>omega
      case rel=>
       have hl6:=lt_blk h26
       refine⟨j+1,.slice (some ⟨g6,0,none⟩) (j+1) c6',by omega,congrArg _ (by omega),((kr.trans kall).then k6 (fun i hi _=>hfar i (by omega))).setCell (p:=⟨w.heap.size+2,3,none⟩) (Or.inl (b:=¬True) (by simp)) _,?_,?_,?_,?_⟩
       ·exact blk_far (k6.blk (kall.blk h0 trivial) (hfar _ (by omega))) (p:=⟨w.heap.size+2,3,none⟩) (by simp) _
       ·exact blk_far (k6.blk (kall.blk h1 trivial) (hfar _ (by omega))) (p:=⟨w.heap.size+2,3,none⟩) (by simp) _
       ·exact(blk_set h26 3 _).trans (by simp)
       ·rw [usualVs_take_succ ks j hj1]
        exact hrow6.keep ((Keep.refl (fun b=>b≠w.heap.size+2) w6).setCell (p:=⟨w.heap.size+2,3,none⟩) (.inr (by simp)) _) (fun b hb=>by show b≠w.heap.size+2;omega)
end Go.Proofs.YtfoegolfadhmjaaGreatDoor
namespace Go.Proofs.YtfoegolfadhmjaaGreatDoor
open Go.RowKit Go.WideShapes
def kT(k:Int)(t:List UInt8):Int:=if t=[]then 0 else k
def kM(n:Nat):Int:=if n=0 then 0 else 22
theorem txF_eq(k:Int)(t:List UInt8):txF k t=.mk (kT k t) 0 t [] 0 []:=by
 unfold txF nul kT
 split
 ·rename_i e;rw [e]
 ·rfl
theorem mpF_eq(l:List V):mpF l=.mk (kM l.length) 0 [] l 0 []:=by
 unfold mpF nul kM
 rcases l with _ | ⟨a,l⟩
 ·rfl
 ·simp
theorem textField_is(k:Int)(t:List UInt8)(w:World):
 Calls Tryz.prog 43 #[.int .i64 k,.string ⟨t.toArray⟩] w fun e w'=>e=.returned (.agg #[.int .i64 (kT k t),.int .u64 0,.string ⟨t.toArray⟩,.slice none 0 0,.int .i64 0,.slice none 0 0,.int .i64 0,.int .u64 0,.string ⟨#[]⟩,.slice none 0 0,.int .i64 0,.slice none 0 0])∧New w w':=by
 rcases t with _ | ⟨t0,t⟩
 ·go_enter Tryz.func43,Tryz.ntmps43
  go_wp2
  refine bodyPost_ret (v:=.agg #[.int .i64 0,.int .u64 0,.string ⟨#[]⟩,.slice none 0 0,.int .i64 0,.slice none 0 0,.int .i64 0,.int .u64 0,.string ⟨#[]⟩,.slice none 0 0,.int .i64 0,.slice none 0 0]) (by simp [results,Tryz.results43,go_sem]) rfl ?_
  exact⟨rfl,(Keep.refl _ w).alloc _⟩
 ·have hk:kT k (t0::t)=k:=if_neg (by simp)
  rw [hk]
  clear hk
  go_enter Tryz.func43,Tryz.ntmps43
  go_wp2
  refine bodyPost_ret (v:=.agg #[.int .i64 k,.int .u64 0,.string ⟨(t0::t).toArray⟩,.slice none 0 0,.int .i64 0,.slice none 0 0,.int .i64 0,.int .u64 0,.string ⟨#[]⟩,.slice none 0 0,.int .i64 0,.slice none 0 0]) (by simp [results,Tryz.results43,go_sem]) rfl ?_
  exact⟨rfl,(Keep.refl _ w).alloc _⟩
def mpS(A:Option Addr)(n c:Nat):Value:=if n=0 then .slice none 0 0 else .slice A n c
theorem mapField_is(A:Option Addr)(n c:Nat)(w:World):
 Calls Tryz.prog 44 #[.slice A n c] w fun e w'=>∃B c',mpS A n c=.slice B n c'∧e=.returned (.agg #[.int .i64 (kM n),.int .u64 0,.string ⟨#[]⟩,.slice B n c',.int .i64 0,.slice none 0 0,.int .i64 0,.int .u64 0,.string ⟨#[]⟩,.slice none 0 0,.int .i64 0,.slice none 0 0])∧New w w':=by
 by_cases h:n=0
 ·subst h
  go_enter Tryz.func44,Tryz.ntmps44
  go_wp2
  refine bodyPost_ret (v:=.agg #[.int .i64 0,.int .u64 0,.string ⟨#[]⟩,.slice none 0 0,.int .i64 0,.slice none 0 0,.int .i64 0,.int .u64 0,.string ⟨#[]⟩,.slice none 0 0,.int .i64 0,.slice none 0 0]) (by simp [results,Tryz.results44,go_sem]) rfl ?_
  exact⟨none,0,rfl,rfl,(Keep.refl _ w).alloc _⟩
 ·have t0:((n:Int)==0)=false:=by simp;omega
  have hs:mpS A n c=.slice A n c:=if_neg h
  have hi:kM n=22:=if_neg h
  rw [hi]
  have HS:=Lib.hid hs
  clear hs hi
  go_enter Tryz.func44,Tryz.ntmps44
  go_wp2
  refine bodyPost_ret (v:=.agg #[.int .i64 22,.int .u64 0,.string ⟨#[]⟩,.slice A n c,.int .i64 0,.slice none 0 0,.int .i64 0,.int .u64 0,.string ⟨#[]⟩,.slice none 0 0,.int .i64 0,.slice none 0 0]) (by simp [results,Tryz.results44,go_sem]) rfl ?_
  exact⟨A,c,HS.out,rfl,(Keep.refl _ w).alloc _⟩
theorem LM.mps{w:World}{l:List V}{A:Option Addr}{c:Nat}(h:LM w l (.slice A l.length c)){B:Option Addr}{c':Nat}(e:mpS A l.length c=.slice B l.length c'):LM w l (.slice B l.length c'):=by
 rw [←e]
 unfold mpS
 split
 ·rename_i h
  obtain rfl:l=[]:=List.eq_nil_of_length_eq_zero h
  exact LM.nil
 ·exact h
theorem h3set{W:World}{b p i:Nat}{a0 a1 a2 u:Value}(h:W.cell? ⟨b,0,none⟩=some a0∧W.cell? ⟨b,1,none⟩=some a1∧W.cell? ⟨b,2,none⟩=some a2)(hne:b≠p):(W.setCell ⟨p,i,none⟩ u).cell? ⟨b,0,none⟩=some a0∧(W.setCell ⟨p,i,none⟩ u).cell? ⟨b,1,none⟩=some a1∧(W.setCell ⟨p,i,none⟩ u).cell? ⟨b,2,none⟩=some a2:=by
 have k:=(Keep.refl (fun x=>x≠p) W).setCell (p:=⟨p,i,none⟩) (.inr (by simp)) u
 exact⟨k.cell h.1 hne,k.cell h.2.1 hne,k.cell h.2.2 hne⟩
theorem mem_mk{w:World}{k:Int}{n:Nat}{t:List UInt8}{ks:List V}{o:Int}{sk:Value}{vs:List V}{cells:List Value}(hn:n<18446744073709551616)(hk:LM w ks sk)(hs:Mem w vs cells):Mem w (.mk k n t ks o []::vs) (.int .i64 k::.int .u64 (n:Int)::.string ⟨t.toArray⟩::sk::.int .i64 o::.slice none 0 0::cells):=by
 obtain⟨ck,h1,h2⟩:=hk
 exact .cons hn h1 h2 (slM_nil w) .nil hs
theorem fau_fm{w W:World}(k:New w W){t0 t1:List UInt8}{l:List V}{n c' d:Nat}{B:Option Addr}(hL:LM w l (.slice B n c'))(hn:n=l.length)(hd:W.heap[d]? =some (.cells #[.int .i64 20,.int .u64 0,.string ⟨t0.toArray⟩,.slice none 0 0,.int .i64 0,.slice none 0 0,.int .i64 0,.int .u64 0,.string ⟨#[]⟩,.slice none 0 0,.int .i64 0,.slice none 0 0,.int .i64 (kT 19 t1),.int .u64 0,.string ⟨t1.toArray⟩,.slice none 0 0,.int .i64 0,.slice none 0 0,.int .i64 0,.int .u64 0,.string ⟨#[]⟩,.slice none 0 0,.int .i64 0,.slice none 0 0,.int .i64 (kM n),.int .u64 0,.string ⟨#[]⟩,.slice B n c',.int .i64 0,.slice none 0 0,.int .i64 0,.int .u64 0,.string ⟨#[]⟩,.slice none 0 0,.int .i64 0,.slice none 0 0] 81 (0,0))):FM W (fauF t0 t1 l) (.slice (some ⟨d,0,none⟩) 3 3):=by
 refine⟨(#[.int .i64 20,.int .u64 0,.string ⟨t0.toArray⟩,.slice none 0 0,.int .i64 0,.slice none 0 0,.int .i64 0,.int .u64 0,.string ⟨#[]⟩,.slice none 0 0,.int .i64 0,.slice none 0 0,.int .i64 (kT 19 t1),.int .u64 0,.string ⟨t1.toArray⟩,.slice none 0 0,.int .i64 0,.slice none 0 0,.int .i64 0,.int .u64 0,.string ⟨#[]⟩,.slice none 0 0,.int .i64 0,.slice none 0 0,.int .i64 (kM n),.int .u64 0,.string ⟨#[]⟩,.slice B n c',.int .i64 0,.slice none 0 0,.int .i64 0,.int .u64 0,.string ⟨#[]⟩,.slice none 0 0,.int .i64 0,.slice none 0 0]:Array Value).toList,⟨_,3,rfl,by show 3≤3;omega,by unfold maxLen;omega,rfl,fun _=>⟨d,0,_,rfl,hd,fun q hq=>?_⟩⟩,?_⟩
 ·rw [Nat.zero_add,Array.getElem?_toList]
 ·have e:flat2 (fauF t0 t1 l)=[.mk 20 0 t0 [] 0 [],.mk 0 0 [] [] 0 [],.mk (kT 19 t1) 0 t1 [] 0 [],.mk 0 0 [] [] 0 [],.mk (kM n) 0 [] l 0 [],.mk 0 0 [] [] 0 []]:=by
   unfold fauF
   rw [txF_eq,mpF_eq,hn]
   rfl
  rw [e]
  exact mem_mk (by omega) .nil (mem_mk (by omega) .nil (mem_mk (by omega) .nil (mem_mk (by omega) .nil (mem_mk (by omega) (hL.keep k) (mem_mk (by omega) .nil .nil)))))
theorem LM.mps2{w:World}{l:List V}{A B:Option Addr}{n c c':Nat}(h:LM w l (.slice A n c))(hn:n=l.length)(e:mpS A n c=.slice B n c'):LM w l (.slice B n c'):=by
 subst hn
 exact h.mps e
theorem faultOf_all(t0 t1:List UInt8)(A:Option Addr)(n c:Nat)(w:World):
 Calls Tryz.prog 16 #[.agg #[.string ⟨t0.toArray⟩,.string ⟨t1.toArray⟩,.slice A n c]] w fun e w'=>∃d B c',mpS A n c=.slice B n c'∧e=.returned (.agg #[.int .u64 29,.slice (some ⟨d,0,none⟩) 3 3])∧New w w'∧w.heap.size≤d∧w'.heap[d]? =some (.cells #[.int .i64 20,.int .u64 0,.string ⟨t0.toArray⟩,.slice none 0 0,.int .i64 0,.slice none 0 0,.int .i64 0,.int .u64 0,.string ⟨#[]⟩,.slice none 0 0,.int .i64 0,.slice none 0 0,.int .i64 (kT 19 t1),.int .u64 0,.string ⟨t1.toArray⟩,.slice none 0 0,.int .i64 0,.slice none 0 0,.int .i64 0,.int .u64 0,.string ⟨#[]⟩,.slice none 0 0,.int .i64 0,.slice none 0 0,.int .i64 (kM n),.int .u64 0,.string ⟨#[]⟩,.slice B n c',.int .i64 0,.slice none 0 0,.int .i64 0,.int .u64 0,.string ⟨#[]⟩,.slice none 0 0,.int .i64 0,.slice none 0 0] 81 (0,0)):=by
 have k0:=(((Keep.refl (fun _=>True) w).alloc (.cells #[.string ⟨t0.toArray⟩,.string ⟨t1.toArray⟩,.slice A n c] 45)).alloc (.cells #[.int .u64 0,.slice none 0 0] 33)).drew
 have hb:=blk_alloc (blk_new w (.cells #[.string ⟨t0.toArray⟩,.string ⟨t1.toArray⟩,.slice A n c] 45)) (.cells #[.int .u64 0,.slice none 0 0] 33)
 have hr:=blk_new (w.alloc (.cells #[.string ⟨t0.toArray⟩,.string ⟨t1.toArray⟩,.slice A n c] 45)) (.cells #[.int .u64 0,.slice none 0 0] 33)
 simp only [World.size_alloc]at hr
 have hb':(((w.alloc (.cells #[.string ⟨t0.toArray⟩,.string ⟨t1.toArray⟩,.slice A n c] 45)).alloc (.cells #[.int .u64 0,.slice none 0 0] 33)).drew).heap[w.heap.size]? =some (.cells #[.string ⟨t0.toArray⟩,.string ⟨t1.toArray⟩,.slice A n c] 45 (0,0)):=hb
 have hr':(((w.alloc (.cells #[.string ⟨t0.toArray⟩,.string ⟨t1.toArray⟩,.slice A n c] 45)).alloc (.cells #[.int .u64 0,.slice none 0 0] 33)).drew).heap[w.heap.size+1]? =some (.cells #[.int .u64 0,.slice none 0 0] 33 (0,0)):=hr
 clear hb hr
 go_enter Tryz.func16,Tryz.ntmps16
 go_wp2_with fail
 go_region_held3 (fun W=>W.cell? ⟨w.heap.size,0,none⟩=some (.string ⟨t0.toArray⟩)∧W.cell? ⟨w.heap.size,1,none⟩=some (.string ⟨t1.toArray⟩)∧W.cell? ⟨w.heap.size,2,none⟩=some (.slice A n c))
  (first | exact hS | exact⟨(blk_cell hb' 0).trans rfl,(blk_cell hb' 1).trans rfl,(blk_cell hb' 2).trans rfl⟩ | exact⟨cell_alloc hS.1 _,cell_alloc hS.2.1 _,cell_alloc hS.2.2 _⟩ | exact h3set (h3set ⟨cell_alloc hS.1 _,cell_alloc hS.2.1 _,cell_alloc hS.2.2 _⟩ (by omega)) (by omega))
  (first
   | (go_at_call 43;refine(textField_is 19 t1 _).mono ?_;rintro e wa ⟨rfl,ka⟩;have hb':=ka.blk (b:=w.heap.size) (by assumption) trivial;have hr':=ka.blk (b:=w.heap.size+1) (by assumption) trivial;have hS:wa.cell? ⟨w.heap.size,0,none⟩=some (.string ⟨t0.toArray⟩)∧wa.cell? ⟨w.heap.size,1,none⟩=some (.string ⟨t1.toArray⟩)∧wa.cell? ⟨w.heap.size,2,none⟩=some (.slice A n c):=⟨(blk_cell hb' 0).trans rfl,(blk_cell hb' 1).trans rfl,(blk_cell hb' 2).trans rfl⟩;have x0:=fun o=>cell_alloc (show wa.cell? ⟨w.heap.size+1,0,none⟩=some (.int .u64 0) from(blk_cell hr' 0).trans rfl) o;have x1:=fun o=>cell_alloc (show wa.cell? ⟨w.heap.size+1,1,none⟩=some (.slice none 0 0) from(blk_cell hr' 1).trans rfl) o;have y0:=fun o=>blk_free (blk_alloc hr' o) 0;have y1:=fun o=>blk_free (blk_alloc hr' o) 1;have kk:New w wa:=(by first | exact(k0.trans ka).trans kb | exact(k0.trans kb).trans ka | exact k0.trans ka | exact k0.trans kb))
   | (go_at_call 44;refine(mapField_is A n c _).mono ?_;rintro e wb ⟨B,c',hB,rfl,kb⟩;have HB:=Lib.hid hB;have hb':=kb.blk (b:=w.heap.size) (by assumption) trivial;have hr':=kb.blk (b:=w.heap.size+1) (by assumption) trivial;have hS:wb.cell? ⟨w.heap.size,0,none⟩=some (.string ⟨t0.toArray⟩)∧wb.cell? ⟨w.heap.size,1,none⟩=some (.string ⟨t1.toArray⟩)∧wb.cell? ⟨w.heap.size,2,none⟩=some (.slice A n c):=⟨(blk_cell hb' 0).trans rfl,(blk_cell hb' 1).trans rfl,(blk_cell hb' 2).trans rfl⟩;clear hB;have x0:=fun o=>cell_alloc (show wb.cell? ⟨w.heap.size+1,0,none⟩=some (.int .u64 0) from(blk_cell hr' 0).trans rfl) o;have x1:=fun o=>cell_alloc (show wb.cell? ⟨w.heap.size+1,1,none⟩=some (.slice none 0 0) from(blk_cell hr' 1).trans rfl) o;have y0:=fun o=>blk_free (blk_alloc hr' o) 0;have y1:=fun o=>blk_free (blk_alloc hr' o) 1;have kk:New w wb:=(by first | exact(k0.trans ka).trans kb | exact(k0.trans kb).trans ka | exact k0.trans ka | exact k0.trans kb)))
 all_goals
  have ek:=kk.size
  have e1:w.heap.size+1<_:=lt_blk hr'
  go_wp2
  refine bodyPost_ret (v:=.agg #[.int .u64 29,.slice (some ⟨_,0,none⟩) 3 3]) (by simp [results,Tryz.results16,go_sem,x0,x1];rfl) rfl ⟨_,B,c',HB.out,rfl,?_,?_,?_⟩
  ·repeat (refine Keep.setCell ?_ (Or.inl (b:=¬True) (by simp)) _)
   exact kk.alloc _
  ·exact ek
  ·refine blk_far (blk_far (blk_new _ _) (p:=⟨w.heap.size+1,0,none⟩) (Nat.ne_of_gt e1) _) (p:=⟨w.heap.size+1,1,none⟩) (Nat.ne_of_gt e1) _
theorem faultOf_is(t0 t1:List UInt8)(l:List V)(w:World)(s:Value)(hs:LM w l s):
 Calls Tryz.prog 16 #[.agg #[.string ⟨t0.toArray⟩,.string ⟨t1.toArray⟩,s]] w fun e w'=>∃d,e=.returned (.agg #[.int .u64 29,.slice (some ⟨d,0,none⟩) 3 3])∧New w w'∧FM w' (fauF t0 t1 l) (.slice (some ⟨d,0,none⟩) 3 3):=by
 obtain⟨A,c,rfl,hc1,hc2⟩:=hs.shape
 refine(faultOf_all t0 t1 A l.length c w).mono ?_
 rintro e w' ⟨d,B,c',hB,he,k,-,hd⟩
 exact⟨d,he,k,fau_fm k (hs.mps hB) rfl hd⟩
end Go.Proofs.YtfoegolfadhmjaaGreatDoor
namespace Go.Proofs.YtfoegolfadhmjaaGreatDoor
open Go.RowKit Go.WideShapes Go.Sort
theorem VM.shown{w:World}{u:V}{y:Value}(h:VM w u y):∃A c B p,y=.agg #[.int .i64 u.kind,.int .u64 (u.num:Int),.string ⟨u.text.toArray⟩,.slice A u.kids.length c,.int .i64 u.of,.slice B u.desc.length p]:=by
 obtain⟨A,c,o,A',c',rfl,-,ho⟩:=h.parts'
 exact⟨A,c,A',c',by rw [ho]⟩
theorem sameField_is(d a b:V)(hFS:FS d a b)(ha:cnt a≤1000000)(hb:cnt b≤1000000)(hd:cnt d≤1000000)(w:World)(f0 f1 f2 f3 f4 f5 d0 d1 d2 d3 d4 d5:Value)(hvd:VM w d (.agg #[d0,d1,d2,d3,d4,d5]))(x y:Value)(hx:VM w a x)(hy:VM w b y):
 Calls Tryz.prog 86 #[.agg #[f0,f1,f2,f3,f4,f5,d0,d1,d2,d3,d4,d5],x,y] w fun e w'=>e=.returned (.bool true)∧New w w':=by
 have HVD:=Lib.hid hvd
 have HX:=Lib.hid hx
 have HY:=Lib.hid hy
 obtain⟨dA,dc,dB,dp,hde⟩:=hvd.shown
 simp only [Value.agg.injEq,Array.mk.injEq,List.cons.injEq,and_true]at hde
 obtain⟨rfl,rfl,rfl,rfl,rfl,rfl⟩:=hde
 obtain⟨aA,ac,aB,ap,rfl⟩:=hx.shown
 obtain⟨bA,bc,bB,bp,rfl⟩:=hy.shown
 clear hvd hx hy
 go_enter Tryz.func86,Tryz.ntmps86
 go_upto_if 11 with fail
 go_cut [] (fun wc=>∃A c B p,VM w (dfl d a) (.agg #[.int .i64 (dfl d a).kind,.int .u64 ((dfl d a).num:Int),.string ⟨(dfl d a).text.toArray⟩,.slice A (dfl d a).kids.length c,.int .i64 (dfl d a).of,.slice B (dfl d a).desc.length p])∧wc=((w.alloc (.cells #[f0,f1,f2,f3,f4,f5,.int .i64 d.kind,.int .u64 (d.num:Int),.string ⟨d.text.toArray⟩,.slice dA d.kids.length dc,.int .i64 d.of,.slice dB d.desc.length dp] 81)).alloc (.cells #[.int .i64 (dfl d a).kind,.int .u64 ((dfl d a).num:Int),.string ⟨(dfl d a).text.toArray⟩,.slice A (dfl d a).kids.length c,.int .i64 (dfl d a).of,.slice B (dfl d a).desc.length p] 78)).alloc (.cells #[.int .i64 b.kind,.int .u64 (b.num:Int),.string ⟨b.text.toArray⟩,.slice bA b.kids.length bc,.int .i64 b.of,.slice bB b.desc.length bp] 78))
 case first=>
  by_cases h0:a.kind=0
  ·have e:=dfl_of d a h0
   have t0:(a.kind==0)=true:=by simpa using h0
   have E:=Lib.hid e
   clear h0 e
   go_wp2
   go_meet
   exact⟨dA,dc,dB,dp,by rw [E.out];exact HVD.out,by rw [E.out]⟩
  ·have e:=dfl_nul a h0 d
   have t0:(a.kind==0)=false:=by simpa using h0
   have E:=Lib.hid e
   clear h0 e
   go_wp2
   go_meet
   exact⟨aA,ac,aB,ap,by rw [E.out];exact HX.out,by rw [E.out]⟩
 case rest=>
  obtain⟨A,c,B,p,hva,hwc⟩:=hcut
  have HVA:=Lib.hid hva
  obtain rfl:=hwc.symm
  obtain⟨a',ha'⟩:∃a',a'=dfl d a:=⟨_,rfl⟩
  rw [←ha']at HVA ⊢
  have HA':=Lib.hid ha'
  clear hva ha' HX
  go_upto_if 16 with fail
  go_cut [] (fun wc=>∃A2 c2 B2 p2,VM w (dfl d b) (.agg #[.int .i64 (dfl d b).kind,.int .u64 ((dfl d b).num:Int),.string ⟨(dfl d b).text.toArray⟩,.slice A2 (dfl d b).kids.length c2,.int .i64 (dfl d b).of,.slice B2 (dfl d b).desc.length p2])∧wc=((w.alloc (.cells #[f0,f1,f2,f3,f4,f5,.int .i64 d.kind,.int .u64 (d.num:Int),.string ⟨d.text.toArray⟩,.slice dA d.kids.length dc,.int .i64 d.of,.slice dB d.desc.length dp] 81)).alloc (.cells #[.int .i64 a'.kind,.int .u64 (a'.num:Int),.string ⟨a'.text.toArray⟩,.slice A a'.kids.length c,.int .i64 a'.of,.slice B a'.desc.length p] 78)).alloc (.cells #[.int .i64 (dfl d b).kind,.int .u64 ((dfl d b).num:Int),.string ⟨(dfl d b).text.toArray⟩,.slice A2 (dfl d b).kids.length c2,.int .i64 (dfl d b).of,.slice B2 (dfl d b).desc.length p2] 78))
  case first=>
   by_cases h0:b.kind=0
   ·have e:=dfl_of d b h0
    have t0:(b.kind==0)=true:=by simpa using h0
    have E:=Lib.hid e
    clear h0 e
    go_wp2
    go_meet
    exact⟨dA,dc,dB,dp,by rw [E.out];exact HVD.out,by rw [E.out]⟩
   ·have e:=dfl_nul b h0 d
    have t0:(b.kind==0)=false:=by simpa using h0
    have E:=Lib.hid e
    clear h0 e
    go_wp2
    go_meet
    exact⟨bA,bc,bB,bp,by rw [E.out];exact HY.out,by rw [E.out]⟩
  case rest=>
   obtain⟨A2,c2,B2,p2,hvb,hwc⟩:=hcut
   have HVB:=Lib.hid hvb
   obtain rfl:=hwc.symm
   obtain⟨b',hb'⟩:∃b',b'=dfl d b:=⟨_,rfl⟩
   rw [←hb']at HVB ⊢
   have HB':=Lib.hid hb'
   have hta:Tidy [a']:=by rw [HA'.out];exact hFS.ta
   have htb:Tidy [b']:=by rw [hb'];exact hFS.tb
   have hsm:sameL (usualV a') (usualV b')=true:=by rw [HA'.out,hb'];exact hFS.same
   have hca:cnt a'≤1000000:=by rw [HA'.out];unfold dfl;split<;>assumption
   have hcb:cnt b'≤1000000:=by rw [hb'];unfold dfl;split<;>assumption
   have hda:a'.desc=[]:=by obtain⟨_,_,_,_,_,e,-⟩:=hta.inv;rw [e];rfl
   rw [hda]at HVA ⊢
   have HTA:=Lib.hid hta
   have HTB:=Lib.hid htb
   have HSM:=Lib.hid hsm
   clear hvb hb' HY HVD hta htb hsm hda hFS
   simp only [List.length_nil]at HVA ⊢
   have k0:=(((Keep.refl (fun _=>True) w).alloc (.cells #[f0,f1,f2,f3,f4,f5,.int .i64 d.kind,.int .u64 (d.num:Int),.string ⟨d.text.toArray⟩,.slice dA d.kids.length dc,.int .i64 d.of,.slice dB d.desc.length dp] 81)).alloc (.cells #[.int .i64 a'.kind,.int .u64 (a'.num:Int),.string ⟨a'.text.toArray⟩,.slice A a'.kids.length c,.int .i64 a'.of,.slice B 0 p] 78)).alloc (.cells #[.int .i64 b'.kind,.int .u64 (b'.num:Int),.string ⟨b'.text.toArray⟩,.slice A2 b'.kids.length c2,.int .i64 b'.of,.slice B2 b'.desc.length p2] 78)
   have hba:=blk_alloc (blk_new (w.alloc (.cells #[f0,f1,f2,f3,f4,f5,.int .i64 d.kind,.int .u64 (d.num:Int),.string ⟨d.text.toArray⟩,.slice dA d.kids.length dc,.int .i64 d.of,.slice dB d.desc.length dp] 81)) (.cells #[.int .i64 a'.kind,.int .u64 (a'.num:Int),.string ⟨a'.text.toArray⟩,.slice A a'.kids.length c,.int .i64 a'.of,.slice B 0 p] 78)) (.cells #[.int .i64 b'.kind,.int .u64 (b'.num:Int),.string ⟨b'.text.toArray⟩,.slice A2 b'.kids.length c2,.int .i64 b'.of,.slice B2 b'.desc.length p2] 78)
   simp only [World.size_alloc]at hba
   have hbb:=blk_new ((w.alloc (.cells #[f0,f1,f2,f3,f4,f5,.int .i64 d.kind,.int .u64 (d.num:Int),.string ⟨d.text.toArray⟩,.slice dA d.kids.length dc,.int .i64 d.of,.slice dB d.desc.length dp] 81)).alloc (.cells #[.int .i64 a'.kind,.int .u64 (a'.num:Int),.string ⟨a'.text.toArray⟩,.slice A a'.kids.length c,.int .i64 a'.of,.slice B 0 p] 78)) (.cells #[.int .i64 b'.kind,.int .u64 (b'.num:Int),.string ⟨b'.text.toArray⟩,.slice A2 b'.kids.length c2,.int .i64 b'.of,.slice B2 b'.desc.length p2] 78)
   simp only [World.size_alloc]at hbb
   obtain⟨W,hW⟩:∃W,W=((w.alloc (.cells #[f0,f1,f2,f3,f4,f5,.int .i64 d.kind,.int .u64 (d.num:Int),.string ⟨d.text.toArray⟩,.slice dA d.kids.length dc,.int .i64 d.of,.slice dB d.desc.length dp] 81)).alloc (.cells #[.int .i64 a'.kind,.int .u64 (a'.num:Int),.string ⟨a'.text.toArray⟩,.slice A a'.kids.length c,.int .i64 a'.of,.slice B 0 p] 78)).alloc (.cells #[.int .i64 b'.kind,.int .u64 (b'.num:Int),.string ⟨b'.text.toArray⟩,.slice A2 b'.kids.length c2,.int .i64 b'.of,.slice B2 b'.desc.length p2] 78):=⟨_,rfl⟩
   rw [←hW]at k0 hba hbb ⊢
   clear hW
   have z5:=(blk_cell hba 5).trans rfl
   have z5':=fun x os=>cell_regrown z5 x os
   have HBA:=Lib.hid hba
   have HBB:=Lib.hid hbb
   clear hba hbb
   go_wp2_with fail
   refine wp_region_quiet_below (by kernel_rfl) (by kernel_rfl) ?_
   repeat (go_big_quiet_step (fail))
   refine wpQuiet_nil ?_
   intro _ hw'
   obtain⟨⟨dq,osq⟩,hw''⟩:=hw'
   subst hw''
   have kx:=new_regrown W dq osq
   obtain⟨W1,hW1⟩:∃W1,W1=grow (redrawn W dq) osq:=⟨_,rfl⟩
   rw [←hW1]at kx ⊢
   clear hW1 z5 z5'
   go_wp2_with fail
   have UA:=Lib.hid (fun W' (k:New w W')=>usual_val (cnt a') hca a' (Nat.le_refl _) HTA.out W' _ (HVA.out.keep k))
   have UB:=Lib.hid (fun W' (k:New w W')=>usual_val (cnt b') hcb b' (Nat.le_refl _) HTB.out W' _ (HVB.out.keep k))
   have LV:=Lib.hid (fun W' y1 y2 h1 h2=>loose_val 1000000 (by omega) (usualV a') (usualV b') (Nat.le_trans (cnt_usual _ a' (Nat.le_refl _)) hca) (NoD.usual _ a' (Nat.le_refl _) HTA.out.noD) (NoD.usual _ b' (Nat.le_refl _) HTB.out.noD) W' y1 y2 h1 h2)
   rw [HSM.out]at LV
   have kd:=(Keep.refl (fun _=>True) W1).drew
   have nn:New w W1.drew:=(k0.trans kx).trans kd
   have BA:W1.drew.heap[w.heap.size+1]? =some (.cells #[.int .i64 a'.kind,.int .u64 (a'.num:Int),.string ⟨a'.text.toArray⟩,.slice A a'.kids.length c,.int .i64 a'.of,.slice B 0 p] 78 (0,0)):=(kx.trans kd).blk HBA.out trivial
   have BB:W1.drew.heap[w.heap.size+1+1]? =some (.cells #[.int .i64 b'.kind,.int .u64 (b'.num:Int),.string ⟨b'.text.toArray⟩,.slice A2 b'.kids.length c2,.int .i64 b'.of,.slice B2 b'.desc.length p2] 78 (0,0)):=(kx.trans kd).blk HBB.out trivial
   have lp0:W1.drew.cell? ⟨w.heap.size+1,0,none⟩=some (.int .i64 a'.kind):=(blk_cell BA 0).trans rfl;have lp1:W1.drew.cell? ⟨w.heap.size+1,1,none⟩=some (.int .u64 (a'.num:Int)):=(blk_cell BA 1).trans rfl;have lp2:W1.drew.cell? ⟨w.heap.size+1,2,none⟩=some (.string ⟨a'.text.toArray⟩):=(blk_cell BA 2).trans rfl;have lp3:W1.drew.cell? ⟨w.heap.size+1,3,none⟩=some (.slice A a'.kids.length c):=(blk_cell BA 3).trans rfl;have lp4:W1.drew.cell? ⟨w.heap.size+1,4,none⟩=some (.int .i64 a'.of):=(blk_cell BA 4).trans rfl;have lp5:W1.drew.cell? ⟨w.heap.size+1,5,none⟩=some (.slice B 0 p):=(blk_cell BA 5).trans rfl
   have lr0:W1.drew.cell? ⟨w.heap.size+1+1,0,none⟩=some (.int .i64 b'.kind):=(blk_cell BB 0).trans rfl;have lr1:W1.drew.cell? ⟨w.heap.size+1+1,1,none⟩=some (.int .u64 (b'.num:Int)):=(blk_cell BB 1).trans rfl;have lr2:W1.drew.cell? ⟨w.heap.size+1+1,2,none⟩=some (.string ⟨b'.text.toArray⟩):=(blk_cell BB 2).trans rfl;have lr3:W1.drew.cell? ⟨w.heap.size+1+1,3,none⟩=some (.slice A2 b'.kids.length c2):=(blk_cell BB 3).trans rfl;have lr4:W1.drew.cell? ⟨w.heap.size+1+1,4,none⟩=some (.int .i64 b'.of):=(blk_cell BB 4).trans rfl;have lr5:W1.drew.cell? ⟨w.heap.size+1+1,5,none⟩=some (.slice B2 b'.desc.length p2):=(blk_cell BB 5).trans rfl
   go_region_law
    (first
     | (go_simp;go_at_call 138;((with_reducible refine(UA.out _ (by assumption)).mono ?_));rintro e wa ⟨ya,rfl,ka,hya⟩;have vA:=hya.here;obtain⟨mA,mc,mB,mp,rfl⟩:=vA.shown;have nn:=Keep.trans (show New w _ by assumption) ka;(try have vB:=VM.keep vB ka);have BB:=ka.blk (b:=w.heap.size+1+1) (o:=.cells #[.int .i64 b'.kind,.int .u64 (b'.num:Int),.string ⟨b'.text.toArray⟩,.slice A2 b'.kids.length c2,.int .i64 b'.of,.slice B2 b'.desc.length p2] 78 (0,0)) (by assumption) trivial;have lr0:wa.cell? ⟨w.heap.size+1+1,0,none⟩=some (.int .i64 b'.kind):=(blk_cell BB 0).trans rfl;have lr1:wa.cell? ⟨w.heap.size+1+1,1,none⟩=some (.int .u64 (b'.num:Int)):=(blk_cell BB 1).trans rfl;have lr2:wa.cell? ⟨w.heap.size+1+1,2,none⟩=some (.string ⟨b'.text.toArray⟩):=(blk_cell BB 2).trans rfl;have lr3:wa.cell? ⟨w.heap.size+1+1,3,none⟩=some (.slice A2 b'.kids.length c2):=(blk_cell BB 3).trans rfl;have lr4:wa.cell? ⟨w.heap.size+1+1,4,none⟩=some (.int .i64 b'.of):=(blk_cell BB 4).trans rfl;have lr5:wa.cell? ⟨w.heap.size+1+1,5,none⟩=some (.slice B2 b'.desc.length p2):=(blk_cell BB 5).trans rfl)
     | (go_simp;go_at_call 138;((with_reducible refine(UA.out _ (by assumption)).mono ?_));rintro e wa ⟨ya,rfl,ka,hya⟩;have vA:=hya.here;obtain⟨mA,mc,mB,mp,rfl⟩:=vA.shown;have nn:=Keep.trans (show New w _ by assumption) ka;(try have vB:=VM.keep vB ka))
     | (go_simp;go_at_call 138;((with_reducible refine(UB.out _ (by assumption)).mono ?_));rintro e wb ⟨yb,rfl,kb,hyb⟩;have vB:=hyb.here;obtain⟨nA,nc,nB,np,rfl⟩:=vB.shown;have nn:=Keep.trans (show New w _ by assumption) kb;(try have vA:=VM.keep vA kb);have BA:=kb.blk (b:=w.heap.size+1) (o:=.cells #[.int .i64 a'.kind,.int .u64 (a'.num:Int),.string ⟨a'.text.toArray⟩,.slice A a'.kids.length c,.int .i64 a'.of,.slice B 0 p] 78 (0,0)) (by assumption) trivial;have lp0:wb.cell? ⟨w.heap.size+1,0,none⟩=some (.int .i64 a'.kind):=(blk_cell BA 0).trans rfl;have lp1:wb.cell? ⟨w.heap.size+1,1,none⟩=some (.int .u64 (a'.num:Int)):=(blk_cell BA 1).trans rfl;have lp2:wb.cell? ⟨w.heap.size+1,2,none⟩=some (.string ⟨a'.text.toArray⟩):=(blk_cell BA 2).trans rfl;have lp3:wb.cell? ⟨w.heap.size+1,3,none⟩=some (.slice A a'.kids.length c):=(blk_cell BA 3).trans rfl;have lp4:wb.cell? ⟨w.heap.size+1,4,none⟩=some (.int .i64 a'.of):=(blk_cell BA 4).trans rfl;have lp5:wb.cell? ⟨w.heap.size+1,5,none⟩=some (.slice B 0 p):=(blk_cell BA 5).trans rfl)
     | (go_simp;go_at_call 138;((with_reducible refine(UB.out _ (by assumption)).mono ?_));rintro e wb ⟨yb,rfl,kb,hyb⟩;have vB:=hyb.here;obtain⟨nA,nc,nB,np,rfl⟩:=vB.shown;have nn:=Keep.trans (show New w _ by assumption) kb;(try have vA:=VM.keep vA kb))
     | (go_simp;go_at_call 137;refine(LV.out _ _ _ vA vB).mono ?_;rintro e wz ⟨rfl,kz⟩;have nn:=Keep.trans (show New w _ by assumption) kz))
   all_goals
    go_wp2
    go_ret
    exact⟨rfl,nn⟩
end Go.Proofs.YtfoegolfadhmjaaGreatDoor
namespace Go.Proofs.YtfoegolfadhmjaaGreatDoor
open Go.RowKit Go.WideShapes Go.Sort
def atN(l:List V)(j:Nat):V:=(l[j]?).getD nul
def SameC(f:V×V)(a b:V):Prop:=∀(W:World) (a0 a1 a2 a3 a4 a5 b0 b1 b2 b3 b4 b5:Value),VM W f.2 (.agg #[b0,b1,b2,b3,b4,b5])→∀(x y:Value),VM W a x→VM W b y→
 Calls Tryz.prog 86 #[.agg #[a0,a1,a2,a3,a4,a5,b0,b1,b2,b3,b4,b5],x,y] W fun e w'=>e=.returned (.bool true)∧New W w'
theorem sameKids_is(c:Nat)(fs:List (V×V))(la lb:List V)(hla:la.length≤fs.length)(hlb:lb.length≤fs.length)(hmx:fs.length≤1000)(hF:∀j (h:j<fs.length),SameC fs[j] (atN la j) (atN lb j))(w:World)(s sa sb:Value)(hs:FM w fs s)(ha:LM w la sa)(hb:LM w lb sb):
 Calls Tryz.prog 63 #[.agg #[.int .u64 (c:Int),s],sa,sb] w fun e w'=>e=.returned (.bool true)∧New w w':=by
 obtain⟨A,cc,rfl,-,-⟩:=hs.shape
 obtain⟨A1,c1,rfl,-,-⟩:=ha.shape
 obtain⟨A2,c2,rfl,-,-⟩:=hb.shape
 obtain⟨n,hn⟩:∃n,n=fs.length:=⟨_,rfl⟩
 obtain⟨lx,hlx⟩:∃n,n=la.length:=⟨_,rfl⟩
 obtain⟨ly,hly⟩:∃n,n=lb.length:=⟨_,rfl⟩
 rw [←hn]at hs hmx hla hlb ⊢
 rw [←hlx]at ha hla ⊢
 rw [←hly]at hb hlb ⊢
 have M:=Lib.hid hn
 have HS:=Lib.hid hs
 have HA:=Lib.hid ha
 have HB:=Lib.hid hb
 have HF:=Lib.hid hF
 have MX:=Lib.hid hlx
 have MY:=Lib.hid hly
 have t1:decide (n<lx)=false:=by simp;omega
 have t2:decide (n<ly)=false:=by simp;omega
 have kA:=(Keep.refl (fun _=>True) w).alloc (.cells #[.int .u64 (c:Int),.slice A n cc] 33)
 clear hs ha hb hF hn hlx hly
 go_enter Tryz.func63,Tryz.ntmps63
 go_wp2_with fail
 go_loopg [28] n (fun kk s28 wr=>∃j:Nat,j+kk=n∧s28=.int .i64 (j:Int)∧New w wr)
 case atStart=>exact⟨0,by omega,rfl,kA⟩
 case round=>
  obtain⟨j,hj,rfl,kr⟩:=hrel
  rcases gk with _ | kk
  ·obtain rfl:n=j:=by omega
   go_wp2
   go_ret
   exact⟨rfl,kr⟩
  have hjn:j<n:=by omega
  have tj:decide (j<n)=true:=by simpa using hjn
  have hjf:j<fs.length:=by rw [←M.out];exact hjn
  have mx:=MX.out
  have my:=MY.out
  obtain⟨d2,i2,hAe,-,-,-,hat⟩:=(HS.out.keep kr).at (fun h=>by rw [h]at hjf;simp at hjf)
  cases hAe
  obtain⟨a0,a1,a2,a3,a4,a5,b0,b1,b2,b3,b4,b5,hva,hvb,g0,g1,g2,g3,g4,g5,g6,g7,g8,g9,g10,g11⟩:=hat j hjf
  obtain⟨A7,c7,o7,A8,c8,heq,-,-⟩:=hva.parts'
  simp only [Value.agg.injEq,Array.mk.injEq,List.cons.injEq,and_true]at heq
  obtain⟨rfl,rfl,rfl,rfl,rfl,rfl⟩:=heq
  obtain⟨B7,e7,p7,B8,e8,heq,-,-⟩:=hvb.parts'
  simp only [Value.agg.injEq,Array.mk.injEq,List.cons.injEq,and_true]at heq
  obtain⟨rfl,rfl,rfl,rfl,rfl,rfl⟩:=heq
  have hsc:=HF.out j hjf
  obtain⟨F,hFe⟩:∃F,F=fs[j]:=⟨_,rfl⟩
  rw [←hFe]at hsc hvb g0 g1 g2 g3 g5 g6 g7 g8 g9 g11
  clear hFe hat hva
  obtain⟨u,v⟩:=F
  simp only at hsc hvb g0 g1 g2 g3 g5 g6 g7 g8 g9 g11
  have HSC:=Lib.hid hsc
  clear hsc
  by_cases hxj:j<lx
  ·by_cases hyj:j<ly
   ·skip
    have hjx:j<la.length:=by omega
    have tx:decide (j<lx)=true:=by simp;omega
    obtain⟨dx,ix,hAe,-,-,-,hatx⟩:=(HA.out.keep kr).at2 (fun h=>by rw [h]at hjx;simp at hjx)
    cases hAe
    obtain⟨x0,x1,x2,x3,x4,x5,hvx,gx0,gx1,gx2,gx3,gx4,gx5⟩:=hatx j hjx
    obtain⟨xA,xc,xB,xp,heq⟩:=hvx.shown
    simp only [Value.agg.injEq,Array.mk.injEq,List.cons.injEq,and_true]at heq
    obtain⟨rfl,rfl,rfl,rfl,rfl,rfl⟩:=heq
    have ex:atN la j=la[j]:=by unfold atN;rw [List.getElem?_eq_getElem hjx];rfl
    rw [←ex]at hvx gx0 gx1 gx2 gx3 gx4 gx5
    have kx0:=fun o1 o2 o3=>cell_alloc (cell_alloc (cell_alloc gx0 o1) o2) o3
    have kx1:=fun o1 o2 o3=>cell_alloc (cell_alloc (cell_alloc gx1 o1) o2) o3
    have kx2:=fun o1 o2 o3=>cell_alloc (cell_alloc (cell_alloc gx2 o1) o2) o3
    have kx3:=fun o1 o2 o3=>cell_alloc (cell_alloc (cell_alloc gx3 o1) o2) o3
    have kx4:=fun o1 o2 o3=>cell_alloc (cell_alloc (cell_alloc gx4 o1) o2) o3
    have kx5:=fun o1 o2 o3=>cell_alloc (cell_alloc (cell_alloc gx5 o1) o2) o3
    have hjy:j<lb.length:=by omega
    have ty:decide (j<ly)=true:=by simp;omega
    obtain⟨dy,iy,hAe,-,-,-,haty⟩:=(HB.out.keep kr).at2 (fun h=>by rw [h]at hjy;simp at hjy)
    cases hAe
    obtain⟨y0,y1,y2,y3,y4,y5,hvy,gy0,gy1,gy2,gy3,gy4,gy5⟩:=haty j hjy
    obtain⟨yA,yc,yB,yp,heq⟩:=hvy.shown
    simp only [Value.agg.injEq,Array.mk.injEq,List.cons.injEq,and_true]at heq
    obtain⟨rfl,rfl,rfl,rfl,rfl,rfl⟩:=heq
    have ey:atN lb j=lb[j]:=by unfold atN;rw [List.getElem?_eq_getElem hjy];rfl
    rw [←ey]at hvy gy0 gy1 gy2 gy3 gy4 gy5
    have ky0:=fun o1 o2 o3=>cell_alloc (cell_alloc (cell_alloc gy0 o1) o2) o3
    have ky1:=fun o1 o2 o3=>cell_alloc (cell_alloc (cell_alloc gy1 o1) o2) o3
    have ky2:=fun o1 o2 o3=>cell_alloc (cell_alloc (cell_alloc gy2 o1) o2) o3
    have ky3:=fun o1 o2 o3=>cell_alloc (cell_alloc (cell_alloc gy3 o1) o2) o3
    have ky4:=fun o1 o2 o3=>cell_alloc (cell_alloc (cell_alloc gy4 o1) o2) o3
    have ky5:=fun o1 o2 o3=>cell_alloc (cell_alloc (cell_alloc gy5 o1) o2) o3
    have kE:=(((Keep.refl (fun _=>True) wr).alloc (.cells #[.int .i64 u.kind,.int .u64 (u.num:Int),.string ⟨u.text.toArray⟩,.slice A7 u.kids.length c7,.int .i64 o7,.slice A8 u.desc.length c8,.int .i64 v.kind,.int .u64 (v.num:Int),.string ⟨v.text.toArray⟩,.slice B7 v.kids.length e7,.int .i64 p7,.slice B8 v.desc.length e8] 81)).alloc (.cells #[.int .i64 (atN la j).kind,.int .u64 ((atN la j).num:Int),.string ⟨(atN la j).text.toArray⟩,.slice xA (atN la j).kids.length xc,.int .i64 (atN la j).of,.slice xB (atN la j).desc.length xp] 78)).alloc (.cells #[.int .i64 (atN lb j).kind,.int .u64 ((atN lb j).num:Int),.string ⟨(atN lb j).text.toArray⟩,.slice yA (atN lb j).kids.length yc,.int .i64 (atN lb j).of,.slice yB (atN lb j).desc.length yp] 78)
    have HC:=Lib.hid (HSC.out _ (.int .i64 u.kind) (.int .u64 (u.num:Int)) (.string ⟨u.text.toArray⟩) (.slice A7 u.kids.length c7) (.int .i64 o7) (.slice A8 u.desc.length c8) _ _ _ _ _ _ (hvb.keep kE) _ _ (hvx.keep kE) (hvy.keep kE))
    clear hvx hvy hvb ex ey mx my
    go_wp2_with fail
    refine HC.out.mono ?_
    rintro e w2 ⟨rfl,k2⟩
    go_wp2
    go_roundg kk
    case measure=>omega
    case rel=>exact⟨j+1,by omega,congrArg _ (by omega),(kr.trans kE).trans k2⟩
   ·skip
    have hjx:j<la.length:=by omega
    have tx:decide (j<lx)=true:=by simp;omega
    obtain⟨dx,ix,hAe,-,-,-,hatx⟩:=(HA.out.keep kr).at2 (fun h=>by rw [h]at hjx;simp at hjx)
    cases hAe
    obtain⟨x0,x1,x2,x3,x4,x5,hvx,gx0,gx1,gx2,gx3,gx4,gx5⟩:=hatx j hjx
    obtain⟨xA,xc,xB,xp,heq⟩:=hvx.shown
    simp only [Value.agg.injEq,Array.mk.injEq,List.cons.injEq,and_true]at heq
    obtain⟨rfl,rfl,rfl,rfl,rfl,rfl⟩:=heq
    have ex:atN la j=la[j]:=by unfold atN;rw [List.getElem?_eq_getElem hjx];rfl
    rw [←ex]at hvx gx0 gx1 gx2 gx3 gx4 gx5
    have kx0:=fun o1 o2 o3=>cell_alloc (cell_alloc (cell_alloc gx0 o1) o2) o3
    have kx1:=fun o1 o2 o3=>cell_alloc (cell_alloc (cell_alloc gx1 o1) o2) o3
    have kx2:=fun o1 o2 o3=>cell_alloc (cell_alloc (cell_alloc gx2 o1) o2) o3
    have kx3:=fun o1 o2 o3=>cell_alloc (cell_alloc (cell_alloc gx3 o1) o2) o3
    have kx4:=fun o1 o2 o3=>cell_alloc (cell_alloc (cell_alloc gx4 o1) o2) o3
    have kx5:=fun o1 o2 o3=>cell_alloc (cell_alloc (cell_alloc gx5 o1) o2) o3
    have ty:decide (j<ly)=false:=by simp;omega
    have ey:atN lb j=nul:=by unfold atN;rw [List.getElem?_eq_none (by omega)];rfl
    have hvy:VM wr (atN lb j) (.agg #[.int .i64 0,.int .u64 0,.string ⟨#[]⟩,.slice none 0 0,.int .i64 0,.slice none 0 0]):=by rw [ey];exact VM.mk (by omega) LM.nil LM.nil
    have kE:=(((Keep.refl (fun _=>True) wr).alloc (.cells #[.int .i64 u.kind,.int .u64 (u.num:Int),.string ⟨u.text.toArray⟩,.slice A7 u.kids.length c7,.int .i64 o7,.slice A8 u.desc.length c8,.int .i64 v.kind,.int .u64 (v.num:Int),.string ⟨v.text.toArray⟩,.slice B7 v.kids.length e7,.int .i64 p7,.slice B8 v.desc.length e8] 81)).alloc (.cells #[.int .i64 (atN la j).kind,.int .u64 ((atN la j).num:Int),.string ⟨(atN la j).text.toArray⟩,.slice xA (atN la j).kids.length xc,.int .i64 (atN la j).of,.slice xB (atN la j).desc.length xp] 78)).alloc (.cells #[.int .i64 0,.int .u64 0,.string ⟨#[]⟩,.slice none 0 0,.int .i64 0,.slice none 0 0] 78)
    have HC:=Lib.hid (HSC.out _ (.int .i64 u.kind) (.int .u64 (u.num:Int)) (.string ⟨u.text.toArray⟩) (.slice A7 u.kids.length c7) (.int .i64 o7) (.slice A8 u.desc.length c8) _ _ _ _ _ _ (hvb.keep kE) _ _ (hvx.keep kE) (hvy.keep kE))
    clear hvx hvy hvb ex ey mx my
    go_wp2_with fail
    refine HC.out.mono ?_
    rintro e w2 ⟨rfl,k2⟩
    go_wp2
    go_roundg kk
    case measure=>omega
    case rel=>exact⟨j+1,by omega,congrArg _ (by omega),(kr.trans kE).trans k2⟩
  ·by_cases hyj:j<ly
   ·skip
    have tx:decide (j<lx)=false:=by simp;omega
    have ex:atN la j=nul:=by unfold atN;rw [List.getElem?_eq_none (by omega)];rfl
    have hvx:VM wr (atN la j) (.agg #[.int .i64 0,.int .u64 0,.string ⟨#[]⟩,.slice none 0 0,.int .i64 0,.slice none 0 0]):=by rw [ex];exact VM.mk (by omega) LM.nil LM.nil
    have hjy:j<lb.length:=by omega
    have ty:decide (j<ly)=true:=by simp;omega
    obtain⟨dy,iy,hAe,-,-,-,haty⟩:=(HB.out.keep kr).at2 (fun h=>by rw [h]at hjy;simp at hjy)
    cases hAe
    obtain⟨y0,y1,y2,y3,y4,y5,hvy,gy0,gy1,gy2,gy3,gy4,gy5⟩:=haty j hjy
    obtain⟨yA,yc,yB,yp,heq⟩:=hvy.shown
    simp only [Value.agg.injEq,Array.mk.injEq,List.cons.injEq,and_true]at heq
    obtain⟨rfl,rfl,rfl,rfl,rfl,rfl⟩:=heq
    have ey:atN lb j=lb[j]:=by unfold atN;rw [List.getElem?_eq_getElem hjy];rfl
    rw [←ey]at hvy gy0 gy1 gy2 gy3 gy4 gy5
    have ky0:=fun o1 o2 o3=>cell_alloc (cell_alloc (cell_alloc gy0 o1) o2) o3
    have ky1:=fun o1 o2 o3=>cell_alloc (cell_alloc (cell_alloc gy1 o1) o2) o3
    have ky2:=fun o1 o2 o3=>cell_alloc (cell_alloc (cell_alloc gy2 o1) o2) o3
    have ky3:=fun o1 o2 o3=>cell_alloc (cell_alloc (cell_alloc gy3 o1) o2) o3
    have ky4:=fun o1 o2 o3=>cell_alloc (cell_alloc (cell_alloc gy4 o1) o2) o3
    have ky5:=fun o1 o2 o3=>cell_alloc (cell_alloc (cell_alloc gy5 o1) o2) o3
    have kE:=(((Keep.refl (fun _=>True) wr).alloc (.cells #[.int .i64 u.kind,.int .u64 (u.num:Int),.string ⟨u.text.toArray⟩,.slice A7 u.kids.length c7,.int .i64 o7,.slice A8 u.desc.length c8,.int .i64 v.kind,.int .u64 (v.num:Int),.string ⟨v.text.toArray⟩,.slice B7 v.kids.length e7,.int .i64 p7,.slice B8 v.desc.length e8] 81)).alloc (.cells #[.int .i64 0,.int .u64 0,.string ⟨#[]⟩,.slice none 0 0,.int .i64 0,.slice none 0 0] 78)).alloc (.cells #[.int .i64 (atN lb j).kind,.int .u64 ((atN lb j).num:Int),.string ⟨(atN lb j).text.toArray⟩,.slice yA (atN lb j).kids.length yc,.int .i64 (atN lb j).of,.slice yB (atN lb j).desc.length yp] 78)
    have HC:=Lib.hid (HSC.out _ (.int .i64 u.kind) (.int .u64 (u.num:Int)) (.string ⟨u.text.toArray⟩) (.slice A7 u.kids.length c7) (.int .i64 o7) (.slice A8 u.desc.length c8) _ _ _ _ _ _ (hvb.keep kE) _ _ (hvx.keep kE) (hvy.keep kE))
    clear hvx hvy hvb ex ey mx my
    go_wp2_with fail
    refine HC.out.mono ?_
    rintro e w2 ⟨rfl,k2⟩
    go_wp2
    go_roundg kk
    case measure=>omega
    case rel=>exact⟨j+1,by omega,congrArg _ (by omega),(kr.trans kE).trans k2⟩
   ·skip
    have tx:decide (j<lx)=false:=by simp;omega
    have ex:atN la j=nul:=by unfold atN;rw [List.getElem?_eq_none (by omega)];rfl
    have hvx:VM wr (atN la j) (.agg #[.int .i64 0,.int .u64 0,.string ⟨#[]⟩,.slice none 0 0,.int .i64 0,.slice none 0 0]):=by rw [ex];exact VM.mk (by omega) LM.nil LM.nil
    have ty:decide (j<ly)=false:=by simp;omega
    have ey:atN lb j=nul:=by unfold atN;rw [List.getElem?_eq_none (by omega)];rfl
    have hvy:VM wr (atN lb j) (.agg #[.int .i64 0,.int .u64 0,.string ⟨#[]⟩,.slice none 0 0,.int .i64 0,.slice none 0 0]):=by rw [ey];exact VM.mk (by omega) LM.nil LM.nil
    have kE:=(((Keep.refl (fun _=>True) wr).alloc (.cells #[.int .i64 u.kind,.int .u64 (u.num:Int),.string ⟨u.text.toArray⟩,.slice A7 u.kids.length c7,.int .i64 o7,.slice A8 u.desc.length c8,.int .i64 v.kind,.int .u64 (v.num:Int),.string ⟨v.text.toArray⟩,.slice B7 v.kids.length e7,.int .i64 p7,.slice B8 v.desc.length e8] 81)).alloc (.cells #[.int .i64 0,.int .u64 0,.string ⟨#[]⟩,.slice none 0 0,.int .i64 0,.slice none 0 0] 78)).alloc (.cells #[.int .i64 0,.int .u64 0,.string ⟨#[]⟩,.slice none 0 0,.int .i64 0,.slice none 0 0] 78)
    have HC:=Lib.hid (HSC.out _ (.int .i64 u.kind) (.int .u64 (u.num:Int)) (.string ⟨u.text.toArray⟩) (.slice A7 u.kids.length c7) (.int .i64 o7) (.slice A8 u.desc.length c8) _ _ _ _ _ _ (hvb.keep kE) _ _ (hvx.keep kE) (hvy.keep kE))
    clear hvx hvy hvb ex ey mx my
    go_wp2_with fail
    refine HC.out.mono ?_
    rintro e w2 ⟨rfl,k2⟩
    go_wp2
    go_roundg kk
    case measure=>omega
    case rel=>exact⟨j+1,by omega,congrArg _ (by omega),(kr.trans kE).trans k2⟩
end Go.Proofs.YtfoegolfadhmjaaGreatDoor
namespace Go.Proofs.YtfoegolfadhmjaaGreatDoor
open Go.RowKit Go.WideShapes Go.Sort
theorem field78_3(A:Option Addr)(n c d:Nat)(w:World):(Instr.field 78 (.agg #[.int .i64 21,.int .u64 0,.string ⟨#[]⟩,.slice A n c,.int .i64 0,.slice (some ⟨d,0,none⟩) 1 1]) 3).run Tryz.prog w=.ok (.slice A n c) w:=by kernel_rfl
theorem is_is(c:Nat)(hc:c<18446744073709551616)(fs:List (V×V))(hm:fs.length≤1000)(kb:List V)(hkb:kb.length≤fs.length)(o od:Int)(hF:∀j (h:j<fs.length),SameC fs[j] (atN (fs.map (·.1)) j) (atN kb j))(w:World)(s x:Value)(hs:FM w fs s)(hx:VM w (.mk 21 0 [] kb o [.mk 5 c [] [] od []]) x):
 Calls Tryz.prog 36 #[.agg #[.int .u64 (c:Int),s],x] w fun e w'=>e=.returned (.bool true)∧New w w':=by
 obtain⟨A,cc,rfl,-,-⟩:=hs.shape
 obtain⟨sk,sd,rfl,hn0,hk,hd⟩:=hx.inv
 obtain⟨A1,c1,rfl,-,-⟩:=hk.shape
 obtain⟨A2,c2,rfl,-,-⟩:=hd.shape
 obtain⟨d,i,hAe,-,-,-,hat⟩:=hd.at2 (by simp)
 cases hAe
 obtain⟨e0,e1,e2,e3,e4,e5,hve,g0,g1,-⟩:=hat 0 (by simp)
 simp only [List.getElem_cons_zero,Nat.zero_mul,Nat.add_zero]at hve g0 g1
 obtain⟨A9,c9,o9,A0,c0,heq,-,-⟩:=hve.parts'
 simp only [Value.agg.injEq,Array.mk.injEq,List.cons.injEq,and_true]at heq
 obtain⟨rfl,rfl,rfl,rfl,rfl,rfl⟩:=heq
 simp only [V.kind,V.num,List.length_cons,List.length_nil]at g0 g1
 simp only [List.length_cons,List.length_nil]
 obtain⟨n,hn⟩:∃n,n=fs.length:=⟨_,rfl⟩
 obtain⟨m,hm2⟩:∃m,m=kb.length:=⟨_,rfl⟩
 have HSK:=Lib.hid (fun W (s1 s2 s3:Value) (h1:FM W fs s1) (h2:LM W (fs.map (·.1)) s2) (h3:LM W kb s3)=>sameKids_is c fs (fs.map (·.1)) kb (by simp) hkb hm hF W s1 s2 s3 h1 h2 h3)
 have HWH:=Lib.hid (fun W (s1:Value) (h1:FM W fs s1)=>whole_is c hc fs hm W s1 h1 fs.length rfl)
 rw [←hn]at hs ⊢
 rw [←hm2]at hk ⊢
 have HS:=Lib.hid hs
 have HK:=Lib.hid hk
 have HN:=Lib.hid hn
 have k0:=((Keep.refl (fun _=>True) w).alloc (.cells #[.int .u64 (c:Int),.slice A n cc] 33)).alloc (.cells #[.int .i64 21,.int .u64 0,.string ⟨#[]⟩,.slice A1 m c1,.int .i64 o,.slice (some ⟨d,i,none⟩) 1 c2] 78)
 have hbc:=blk_alloc (blk_new w (.cells #[.int .u64 (c:Int),.slice A n cc] 33)) (.cells #[.int .i64 21,.int .u64 0,.string ⟨#[]⟩,.slice A1 m c1,.int .i64 o,.slice (some ⟨d,i,none⟩) 1 c2] 78)
 have hbv:=blk_new (w.alloc (.cells #[.int .u64 (c:Int),.slice A n cc] 33)) (.cells #[.int .i64 21,.int .u64 0,.string ⟨#[]⟩,.slice A1 m c1,.int .i64 o,.slice (some ⟨d,i,none⟩) 1 c2] 78)
 simp only [World.size_alloc]at hbv
 obtain⟨W,hW⟩:∃W,W=(w.alloc (.cells #[.int .u64 (c:Int),.slice A n cc] 33)).alloc (.cells #[.int .i64 21,.int .u64 0,.string ⟨#[]⟩,.slice A1 m c1,.int .i64 o,.slice (some ⟨d,i,none⟩) 1 c2] 78):=⟨_,rfl⟩
 rw [←hW]at k0 hbc hbv
 have HWE:=Lib.hid hW
 have q0:=k0.cell g0 trivial
 have q1:=k0.cell g1 trivial
 have HBC:=Lib.hid hbc
 have HBV:=Lib.hid hbv
 have z0:W.cell? ⟨w.heap.size,0,none⟩=some (.int .u64 (c:Int)):=(blk_cell hbc 0).trans rfl
 have y0:W.cell? ⟨w.heap.size+1,0,none⟩=some (.int .i64 21):=(blk_cell hbv 0).trans rfl
 have y5:W.cell? ⟨w.heap.size+1,5,none⟩=some (.slice (some ⟨d,i,none⟩) 1 c2):=(blk_cell hbv 5).trans rfl
 have z0':=fun x os=>cell_regrown z0 x os
 have y0':=fun x os=>cell_regrown y0 x os
 have y5':=fun x os=>cell_regrown y5 x os
 have q0':=fun x os=>cell_regrown q0 x os
 have q1':=fun x os=>cell_regrown q1 x os
 clear hs hx hk hd hat hve g0 g1 hm hkb hF hn hm2 hbc hbv hW z0 y0 y5 q0 q1
 go_enter Tryz.func36,Tryz.ntmps36
 go_wp2_with fail
 rw [←HWE.out]
 refine wp_region_quiet_below (by kernel_rfl) (by kernel_rfl) ?_
 repeat (go_big_quiet_step (fail))
 refine wpQuiet_nil ?_
 intro _ hw'
 obtain⟨⟨dq,osq⟩,hw''⟩:=hw'
 subst hw''
 have kx:=new_regrown W dq osq
 obtain⟨W1,hW1⟩:∃W1,W1=grow (redrawn W dq) osq:=⟨_,rfl⟩
 rw [←hW1]at kx ⊢
 clear hW1 z0' y0' y5' q0' q1'
 have kd:=(Keep.refl (fun _=>True) W1).drew
 have nn:New w W1.drew:=(k0.trans kx).trans kd
 have BC:W1.drew.heap[w.heap.size]? =some (.cells #[.int .u64 (c:Int),.slice A n cc] 33 (0,0)):=(kx.trans kd).blk HBC.out trivial
 have BV:W1.drew.heap[w.heap.size+1]? =some (.cells #[.int .i64 21,.int .u64 0,.string ⟨#[]⟩,.slice A1 m c1,.int .i64 o,.slice (some ⟨d,i,none⟩) 1 c2] 78 (0,0)):=(kx.trans kd).blk HBV.out trivial
 have u0:W1.drew.cell? ⟨w.heap.size,0,none⟩=some (.int .u64 (c:Int)):=(blk_cell BC 0).trans rfl
 have u1:W1.drew.cell? ⟨w.heap.size,1,none⟩=some (.slice A n cc):=(blk_cell BC 1).trans rfl
 have u3:W1.drew.cell? ⟨w.heap.size+1,3,none⟩=some (.slice A1 m c1):=(blk_cell BV 3).trans rfl
 go_wp2_with fail
 have hfld:=field78_3
 go_region_law
  (first
   | (go_simp;go_at_call 31;refine(HWH.out _ _ (HS.out.keep (show New w _ by assumption))).mono ?_;rintro e wa ⟨sk,dd,rfl,ka,⟨cells,hown,hmem⟩,-,-⟩;have hlm:=LM.own (l:=fs.map (·.1)) (base:=dd+2) (cells:=cells) (by rw [List.length_map];exact hown) (hmem.keep ka);obtain⟨Ak,ck,rfl⟩:=own_shape hown;have nn:=Keep.trans (show New w _ by assumption) ka;have BC:=ka.blk (b:=w.heap.size) (o:=.cells #[.int .u64 (c:Int),.slice A n cc] 33 (0,0)) (by assumption) trivial;have BV:=ka.blk (b:=w.heap.size+1) (o:=.cells #[.int .i64 21,.int .u64 0,.string ⟨#[]⟩,.slice A1 m c1,.int .i64 o,.slice (some ⟨d,i,none⟩) 1 c2] 78 (0,0)) (by assumption) trivial;have v0:wa.cell? ⟨w.heap.size,0,none⟩=some (.int .u64 (c:Int)):=(blk_cell BC 0).trans rfl;have v1:wa.cell? ⟨w.heap.size,1,none⟩=some (.slice A n cc):=(blk_cell BC 1).trans rfl;have v3:wa.cell? ⟨w.heap.size+1,3,none⟩=some (.slice A1 m c1):=(blk_cell BV 3).trans rfl)
   | (go_simp;go_at_call 63;refine(HSK.out _ _ _ _ (HS.out.keep nn) hlm (HK.out.keep nn)).mono ?_;rintro e wz ⟨rfl,kz⟩;have nn:=Keep.trans (show New w _ by assumption) kz))
 all_goals
  go_wp2
  go_ret
  exact⟨rfl,nn⟩
end Go.Proofs.YtfoegolfadhmjaaGreatDoor
namespace Go.Proofs.YtfoegolfadhmjaaGreatDoor
open Go.RowKit Go.WideShapes Go.Sort
theorem same_is(c:Nat)(hc:c<18446744073709551616)(fs gs:List (V×V))(hm:fs.length≤1000)(hg:gs.length≤fs.length)(hF:∀j (h:j<fs.length),SameC fs[j] (atN (fs.map (·.1)) j) (atN (gs.map (·.1)) j))(w:World)(s s':Value)(hs:FM w fs s)(hs':FM w gs s'):
 Calls Tryz.prog 10 #[.agg #[.int .u64 (c:Int),s],.agg #[.int .u64 (c:Int),s']] w fun e w'=>e=.returned (.bool true)∧New w w':=by
 obtain⟨A,cc,rfl,-,-⟩:=hs.shape
 obtain⟨A',cc',rfl,-,-⟩:=hs'.shape
 have HIS:=Lib.hid (fun (o od:Int) W (s1 x:Value) (h1:FM W fs s1) h2=>is_is c hc fs hm (gs.map (·.1)) (by simpa using hg) o od hF W s1 x h1 h2)
 have HWH:=Lib.hid (fun W (s1:Value) (h1:FM W gs s1)=>whole_is c hc gs (by omega) W s1 h1 gs.length rfl)
 obtain⟨n,hn⟩:∃n,n=fs.length:=⟨_,rfl⟩
 obtain⟨m,hm2⟩:∃m,m=gs.length:=⟨_,rfl⟩
 rw [←hn]at hs ⊢
 rw [←hm2]at hs' HWH ⊢
 have HS:=Lib.hid hs
 have HS2:=Lib.hid hs'
 have HM2:=Lib.hid hm2
 have k0:=(((Keep.refl (fun _=>True) w).alloc (.cells #[.int .u64 (c:Int),.slice A n cc] 33)).alloc (.cells #[.int .u64 (c:Int),.slice A' m cc'] 33)).drew
 have b1:(((w.alloc (.cells #[.int .u64 (c:Int),.slice A n cc] 33)).alloc (.cells #[.int .u64 (c:Int),.slice A' m cc'] 33)).drew).heap[w.heap.size]? =some (.cells #[.int .u64 (c:Int),.slice A n cc] 33 (0,0)):=blk_alloc (blk_new w (.cells #[.int .u64 (c:Int),.slice A n cc] 33)) (.cells #[.int .u64 (c:Int),.slice A' m cc'] 33)
 have b2:(((w.alloc (.cells #[.int .u64 (c:Int),.slice A n cc] 33)).alloc (.cells #[.int .u64 (c:Int),.slice A' m cc'] 33)).drew).heap[w.heap.size+1]? =some (.cells #[.int .u64 (c:Int),.slice A' m cc'] 33 (0,0)):=by have:=blk_new (w.alloc (.cells #[.int .u64 (c:Int),.slice A n cc] 33)) (.cells #[.int .u64 (c:Int),.slice A' m cc'] 33);simp only [World.size_alloc]at this;exact this
 clear hs hs' hn hm2 hm hg hF
 go_enter Tryz.func10,Tryz.ntmps10
 go_wp2_with fail
 go_region_law
  (first
   | (go_simp;go_at_call 31;refine(HWH.out _ _ (HS2.out.keep (show New w _ by assumption))).mono ?_;rintro e wa ⟨sk,dd,rfl,ka,⟨cells,hown,hmem⟩,-,hdb⟩;have hlm:=LM.own (l:=gs.map (·.1)) (base:=dd+2) (cells:=cells) (by rw [List.length_map,←HM2.out];exact hown) (hmem.keep ka);have hdm:LM wa [.mk 5 c [] [] 0 []] (.slice (some ⟨dd,0,none⟩) 1 1):=⟨_,⟨some ⟨dd,0,none⟩,1,rfl,Nat.le_refl _,by unfold maxLen;omega,rfl,fun _=>⟨dd,0,rfl,fun q u hq=>by rw [blk_cell hdb,Nat.zero_add];simpa using hq⟩⟩,mem_plain wa 5 c [] hc⟩;have hvm:=VM.mk (k:=21) (n:=0) (t:=[]) (o:=0) (by omega) hlm hdm;obtain⟨Ak,ck,rfl⟩:=own_shape hown;have nn:=Keep.trans (show New w _ by assumption) ka;have b1:=ka.blk (b:=w.heap.size) (o:=.cells #[.int .u64 (c:Int),.slice A n cc] 33 (0,0)) (by assumption) trivial;have v0:wa.cell? ⟨w.heap.size,0,none⟩=some (.int .u64 (c:Int)):=(blk_cell b1 0).trans rfl;have v1:wa.cell? ⟨w.heap.size,1,none⟩=some (.slice A n cc):=(blk_cell b1 1).trans rfl)
   | (go_simp;go_at_call 36;refine(HIS.out 0 0 _ _ _ (HS.out.keep nn) hvm).mono ?_;rintro e wz ⟨rfl,kz⟩;have nn:=Keep.trans (show New w _ by assumption) kz))
 all_goals
  go_wp2
  go_ret
  exact⟨rfl,nn⟩
end Go.Proofs.YtfoegolfadhmjaaGreatDoor
namespace Go.Proofs.YtfoegolfadhmjaaGreatDoor
open Go.RowKit Go.WideShapes Go.Sort
theorem conv_slc{w:World}{v:Value}{l:List UInt8}(h:SlC w v l):(convert 27 9 v).run Tryz.prog w=.ok (.string ⟨l.toArray⟩) w:=by
 obtain⟨A,c,rfl,h1,h2,h3⟩:=h
 by_cases hl:l=[]
 ·subst hl
  refine conv_slb ⟨A,c,rfl,h1,h2,fun h=>absurd rfl h⟩
 ·obtain⟨d,i,rfl,hc⟩:=h3 hl
  exact conv_cells w d i c l hc
theorem left_is(l:List UInt8)(w:World)(v v':Value)(h:SlC w v l)(h':SlC w v' l):
 Calls Tryz.prog 13 #[v,v'] w fun e w'=>e=.returned (.bool true)∧New w w':=by
 have c1:=conv_slc h
 have c2:=conv_slc h'
 obtain⟨A,c,rfl,-⟩:=h
 obtain⟨A',c',rfl,-⟩:=h'
 go_enter Tryz.func13,Tryz.ntmps13
 go_wp2
 go_ret
 exact⟨rfl,Keep.refl _ _⟩
end Go.Proofs.YtfoegolfadhmjaaGreatDoor
namespace Go.Proofs.YtfoegolfadhmjaaGreatDoor
open Go.RowKit Go.WideShapes
theorem sameC_of{f:V×V}{a b:V}(h:FS f.2 a b)(ha:cnt a≤1000000)(hb:cnt b≤1000000)(hd:cnt f.2≤1000000):SameC f a b:=
 fun W a0 a1 a2 a3 a4 a5 b0 b1 b2 b3 b4 b5 hv x y hx hy=>sameField_is f.2 a b h ha hb hd W a0 a1 a2 a3 a4 a5 b0 b1 b2 b3 b4 b5 hv x y hx hy
theorem atN_map{fs:List (V×V)}{j:Nat}(h:j<fs.length):atN (fs.map (·.1)) j=fs[j].1:=by
 unfold atN
 rw [List.getElem?_eq_getElem (by simpa using h),List.getElem_map]
 rfl
theorem cnt_tx(k:Int)(t:List UInt8):cnt (txF k t)=1:=by unfold txF;split<;>simp [nul,cnt,cnts]
theorem cnt_mp(l:List V):cnt (mpF l)≤1+cnts l:=by unfold mpF;split<;>simp [nul,cnt,cnts]
theorem fault_samec{t0 t1:List UInt8}{l us:List V}(hfs:∀j (h:j<3),FS (fauF t0 t1 l)[j].2 (fauF t0 t1 l)[j].1 (fauF t0 t1 us)[j].1)(hc:cnts l≤1000)(hcu:cnts us≤1000):
 ∀j (h:j<(fauF t0 t1 l).length),SameC (fauF t0 t1 l)[j] (atN ((fauF t0 t1 l).map (·.1)) j) (atN ((fauF t0 t1 us).map (·.1)) j):=by
 intro j h
 have h3:j<3:=h
 rw [atN_map h,atN_map (fs:=fauF t0 t1 us) h]
 have c1:=cnt_mp l
 have c2:=cnt_mp us
 have b:∀(l:List V),cnts l≤1000→∀j (h:j<3),cnt (fauF t0 t1 l)[j].1≤1000000:=by
  intro l hl j h
  have c1:=cnt_mp l
  match j,h with
  | 0,_=>simp [fauF,cnt,cnts]
  | 1,_=>simp [fauF,cnt_tx]
  | 2,_=>show cnt (mpF l)≤1000000;omega
 refine sameC_of (hfs j h3) (b l hc j h3) (b us hcu j h3) ?_
 match j,h3 with
 | 0,_=>simp [fauF,nul,cnt,cnts]
 | 1,_=>simp [fauF,nul,cnt,cnts]
 | 2,_=>simp [fauF,nul,cnt,cnts]
end Go.Proofs.YtfoegolfadhmjaaGreatDoor
namespace Go.Proofs.YtfoegolfadhmjaaGreatDoor
open Go.RowKit Go.WideShapes Go.Sort
theorem cnts_take(l:List V)(j:Nat)(hj:j<l.length):cnts (l.take (j+1))=cnts (l.take j)+cnt l[j]:=by
 rw [←List.take_append_getElem hj,cnts_append]
 simp [cnts]
theorem few_val(N:Nat):∀(v:V),cnt v≤N→∀(w:World) (x:Value) (p m:Nat),VM w v x→w.heap[p]? =some (.cells #[.int .i64 (m:Int)] 3 (0,0))→m≤1000000→
 Calls Tryz.prog 64 #[x,.pointer (some ⟨p,0,none⟩)] w fun e w'=>∃b,e=.returned (.bool b)∧Keep (fun k=>k≠p) w w'∧∃m':Int,w'.heap[p]? =some (.cells #[.int .i64 m'] 3 (0,0))∧(b=true→m' +cnt v=m∧0≤m'):=by
 induction N with
 | zero=>
   intro v h
   cases v
   simp only [cnt]at h
   omega
 | succ N ih=>
   intro v hN w x p m hx hp hm
   obtain⟨k,n,t,ks,o,ds⟩:=v
   obtain⟨sk,sd,rfl,hn,hks,hds⟩:=hx.inv
   obtain⟨A1,c1,rfl,hl1,hl1'⟩:=hks.shape
   obtain⟨A2,c2,rfl,hl2,hl2'⟩:=hds.shape
   have hml:ks.length≤maxLen:=by omega
   have hmd:ds.length≤maxLen:=by omega
   unfold maxLen at hml hmd
   have hNk:cnts ks≤N∧cnts ds≤N:=by simp only [cnt]at hN;omega
   clear hl1 hl1' hl2 hl2' hx hN
   obtain⟨a,ha⟩:∃a,a=ks.length:=⟨_,rfl⟩
   obtain⟨b,hb⟩:∃b,b=ds.length:=⟨_,rfl⟩
   rw [←ha]at hml hks ⊢
   rw [←hb]at hmd hds ⊢
   have M1:=Lib.hid ha
   have M2:=Lib.hid hb
   have HK:=Lib.hid hks
   have HD:=Lib.hid hds
   have IH:=Lib.hid ih
   have HP:=Lib.hid hp
   clear ha hb hks hds ih
   have hplt:=lt_blk hp
   have c0:=cell_alloc ((blk_cell hp 0).trans rfl) (.cells #[.int .i64 k,.int .u64 (n:Int),.string ⟨t.toArray⟩,.slice A1 a c1,.int .i64 o,.slice A2 b c2] 78)
   have f0:=blk_free (blk_alloc hp (.cells #[.int .i64 k,.int .u64 (n:Int),.string ⟨t.toArray⟩,.slice A1 a c1,.int .i64 o,.slice A2 b c2] 78)) 0
   have hs:=fun u=>blk_set hp 0 u
   have hc1:=fun u=>cell_alloc ((blk_cell (hs u) 0).trans rfl) (.cells #[.int .i64 k,.int .u64 (n:Int),.string ⟨t.toArray⟩,.slice A1 a c1,.int .i64 o,.slice A2 b c2] 78)
   have HP1:=Lib.hid fun u=>blk_alloc (hs u) (.cells #[.int .i64 k,.int .u64 (n:Int),.string ⟨t.toArray⟩,.slice A1 a c1,.int .i64 o,.slice A2 b c2] 78)
   have HB1:=Lib.hid fun u=>blk_new (w.setCell ⟨p,0,none⟩ u) (.cells #[.int .i64 k,.int .u64 (n:Int),.string ⟨t.toArray⟩,.slice A1 a c1,.int .i64 o,.slice A2 b c2] 78)
   have K1:Hid (∀u,Keep (fun k=>k≠p) w ((w.setCell ⟨p,0,none⟩ u).alloc (.cells #[.int .i64 k,.int .u64 (n:Int),.string ⟨t.toArray⟩,.slice A1 a c1,.int .i64 o,.slice A2 b c2] 78))):=Lib.hid fun u=>((Keep.refl _ w).setCell (.inr (by simp)) _).alloc _
   have hc1:∀u,((w.setCell ⟨p,0,none⟩ u).alloc (.cells #[.int .i64 k,.int .u64 (n:Int),.string ⟨t.toArray⟩,.slice A1 a c1,.int .i64 o,.slice A2 b c2] 78)).cell? ⟨p,0,none⟩=some u:=hc1
   clear hp hs
   by_cases hm0:m=0
   ·subst hm0
    go_enter Tryz.func64,Tryz.ntmps64
    go_wp2
    go_ret
    exact⟨false,rfl,K1.out _,-1,by simpa using HP1.out (.int .i64 (-1)),fun h=>by cases h⟩
   have tm:decide ((m:Int)-1<0)=false:=by simp;omega
   go_enter Tryz.func64,Tryz.ntmps64
   go_wp2_with fail
   go_loopg [5] a (fun kk s5 wr=>∃(j mj:Nat),j+kk=a∧s5=.int .i64 (j:Int)∧Keep (fun k=>k≠p) w wr∧wr.heap[w.heap.size]? =some (.cells #[.int .i64 k,.int .u64 (n:Int),.string ⟨t.toArray⟩,.slice A1 a c1,.int .i64 o,.slice A2 b c2] 78 (0,0))∧wr.heap[p]? =some (.cells #[.int .i64 (mj:Int)] 3 (0,0))∧mj+1+cnts (ks.take j)=m)
   case atStart=>
    refine⟨0,m-1,by omega,rfl,K1.out _,by simpa using HB1.out (.int .i64 ((m:Int)-1)),?_,by simp [cnts];omega⟩
    have:=HP1.out (.int .i64 ((m:Int)-1))
    rw [show((m:Int)-1)=((m-1:Nat):Int) by omega]at this ⊢
    simpa using this
   case round=>
    obtain⟨j,mj,hj,rfl,kr,hb,hpr,hmj⟩:=hrel
    rcases gk with _ | kk
    ·obtain rfl:a=j:=by omega
     have hmk:mj+1+cnts ks=m:=by rw [M1.out,List.take_length]at hmj;exact hmj
     clear hmj
     have hbox3:=(blk_cell hb 3).trans rfl
     go_wp2_with fail
     go_loopg [6] b (fun kk s6 wr=>∃(j mj:Nat),j+kk=b∧s6=.int .i64 (j:Int)∧Keep (fun k=>k≠p) w wr∧wr.heap[w.heap.size]? =some (.cells #[.int .i64 k,.int .u64 (n:Int),.string ⟨t.toArray⟩,.slice A1 a c1,.int .i64 o,.slice A2 b c2] 78 (0,0))∧wr.heap[p]? =some (.cells #[.int .i64 (mj:Int)] 3 (0,0))∧mj+1+cnts ks+cnts (ds.take j)=m)
     case atStart=>exact⟨0,mj,by omega,rfl,kr,hb,hpr,by simp [cnts];omega⟩
     case round=>
      clear hmk hbox3 kr hb hpr
      obtain⟨j',mj',hj',rfl,kr,hb,hpr,hmj⟩:=hrel
      rcases gk with _ | kk
      ·obtain rfl:b=j':=by omega
       have hbox5:=(blk_cell hb 5).trans rfl
       go_wp2
       go_ret
       refine⟨true,rfl,kr,mj',hpr,fun _=>?_⟩
       rw [M2.out,List.take_length]at hmj
       simp only [cnt]
       omega
      ·have hjn:j'<b:=by omega
       have tj:decide (j'<b)=true:=by simpa using hjn
       have hj1:j'<ds.length:=by rw [←M2.out];exact hjn
       have hbox5:=(blk_cell hb 5).trans rfl
       obtain⟨d2,i2,hAe,-,-,-,hat⟩:=((HD.out.keepN HP.out (by simp) kr)).at2 (fun h=>by rw [h]at hj1;simp at hj1)
       cases hAe
       obtain⟨e0,e1,e2,e3,e4,e5,hva,g0,g1,g2,g3,g4,g5⟩:=hat j' hj1
       have hcall:=IH.out ds[j'] (Nat.le_trans (cnts_get ds j' hj1) hNk.2) wr _ p mj' hva hpr (by omega)
       have HC:=Lib.hid hcall
       have HB:=Lib.hid hb
       have HMJ:=Lib.hid hmj
       clear hcall hva hat hpr hb hmj
       go_wp2_with fail
       refine HC.out.mono ?_
       rintro e w4 ⟨bb,rfl,k4,m4,hp4,hm4⟩
       have kr4:=kr.trans k4
       have hb4:=k4.blk HB.out (show w.heap.size≠p by omega)
       cases bb
       ·go_wp2
        go_ret
        exact⟨false,rfl,kr4,m4,hp4,fun h=>by cases h⟩
       ·obtain⟨hm5,hm6⟩:=hm4 rfl
        obtain⟨m5,rfl⟩:∃m5:Nat,m4=m5:=⟨m4.toNat,by omega⟩
        go_wp2
        go_roundg kk
        case measure=>omega
        case rel=>
         refine⟨j' +1,m5,by omega,congrArg _ (by omega),kr4,hb4,hp4,?_⟩
         have:=HMJ.out
         rw [cnts_take _ _ hj1]
         omega
    ·have hjn:j<a:=by omega
     have tj:decide (j<a)=true:=by simpa using hjn
     have hj1:j<ks.length:=by rw [←M1.out];exact hjn
     have hbox3:=(blk_cell hb 3).trans rfl
     obtain⟨d2,i2,hAe,-,-,-,hat⟩:=((HK.out.keepN HP.out (by simp) kr)).at2 (fun h=>by rw [h]at hj1;simp at hj1)
     cases hAe
     obtain⟨e0,e1,e2,e3,e4,e5,hva,g0,g1,g2,g3,g4,g5⟩:=hat j hj1
     have hcall:=IH.out ks[j] (Nat.le_trans (cnts_get ks j hj1) hNk.1) wr _ p mj hva hpr (by omega)
     have HC:=Lib.hid hcall
     have HB:=Lib.hid hb
     have HMJ:=Lib.hid hmj
     clear hcall hva hat hpr hb hmj
     go_wp2_with fail
     refine HC.out.mono ?_
     rintro e w4 ⟨bb,rfl,k4,m4,hp4,hm4⟩
     have kr4:=kr.trans k4
     have hb4:=k4.blk HB.out (show w.heap.size≠p by omega)
     cases bb
     ·go_wp2
      go_ret
      exact⟨false,rfl,kr4,m4,hp4,fun h=>by cases h⟩
     ·obtain⟨hm5,hm6⟩:=hm4 rfl
      obtain⟨m5,rfl⟩:∃m5:Nat,m4=m5:=⟨m4.toNat,by omega⟩
      go_wp2
      go_roundg kk
      case measure=>omega
      case rel=>
       refine⟨j+1,m5,by omega,congrArg _ (by omega),kr4,hb4,hp4,?_⟩
       have:=HMJ.out
       rw [cnts_take _ _ hj1]
       omega
end Go.Proofs.YtfoegolfadhmjaaGreatDoor
namespace Go.Proofs.YtfoegolfadhmjaaGreatDoor
open Go.RowKit Go.WideShapes Go.Sort
theorem own_app(w0 w:World)(k0:New w0 w)(sk:Value)(n:Nat)(cells:List Value)(h:w.ownsRow w0.heap.size 78 6 sk n cells)(l:List V)(v:Value)(cl:List Value)(hs:SlM w v l.length cl)(hm:Mem w l cl)(hn:n+l.length≤1000000):
 ∃sk' w',(Builtin.append_ #[43,43] 43 #[sk,v]).run Tryz.prog w=.ok sk' w'∧w'.ownsRow w0.heap.size 78 6 sk' (n+l.length) (cells++cl)∧New w0 w'∧Keep (fun b=>some b≠sk.ownBlock) w w':=by
 obtain⟨i0,hi,hz,hsz,hb⟩:=info_parts info78
 obtain⟨A,c,rfl,hc1,hc2,hl,hA⟩:=hs
 have far:∀b,b<w0.heap.size→some b≠sk.ownBlock:=fun b hb'=>by
  rcases h.2 with⟨rfl,_⟩ | ⟨g,cap,cur,rfl,hg,_⟩
  ·intro e;cases e
  ·intro e
   injection e with e
   simp at e
   omega
 cases A with
 | some ad=>
   obtain⟨v',w',hr,h2,h3,_,h5⟩:=run_append_own_at (P:=Tryz.prog) (w:=w) w0.heap.size 43 43 78 i0 _ 6 88 Tryz.underlying43 hi hz hsz hb rfl (by omega) sk n cells h ad l.length c cl hl (fun j u hj=>by
    have hne:l.length≠0:=by
     intro e
     rw [e]at hl
     have:cl=[]:=List.eq_nil_of_length_eq_zero (by omega)
     rw [this]at hj
     simp at hj
    obtain⟨d,i,he,hd⟩:=hA hne
    injection he with he
    subst he
    have hplain:(⟨d,i,none⟩:Addr).add j=⟨d,i+j,none⟩:=by unfold Addr.add;split<;>simp_all
    rw [hplain]
    exact hd j u hj) hm.one (by unfold maxLen;omega) (by omega) k0.size
   have kk:Keep (fun k=>some k≠sk.ownBlock) w w':=Keep.of_grown h3 (fun k hk=>hk)
   exact⟨v',w',hr,h2,k0.then kk (fun i hi _=>far i hi),kk⟩
 | none=>
   have hl0:l=[]:=by
    rcases l with _ | ⟨x,l⟩
    ·rfl
    ·obtain⟨d,i,he,_⟩:=hA (by simp)
     cases he
   subst hl0
   have hcl:cl=[]:=List.eq_nil_of_length_eq_zero (by simpa using hl)
   subst hcl
   have hsh:∃A c,sk=.slice A n c∧n≤c:=by
    rcases h.2 with⟨rfl,h0⟩ | ⟨g,cap,cur,rfl,hg,hb,hn,_⟩
    ·rw [h0];exact⟨none,0,rfl,Nat.le_refl _⟩
    ·exact⟨_,cap,rfl,hn⟩
   obtain⟨A',c',rfl,hle⟩:=hsh
   refine⟨_,w,?_,by rw [List.append_nil];exact h,k0,Keep.refl _ _⟩
   exact run_append_nothing w 43 43 43 78 i0 Tryz.underlying43 hi A' n c' hle _ (Src.ofNil w Tryz.underlying43 c)
theorem values_val(N:Nat):N≤1000000→∀(v:V),cnt v≤N→∀(w:World) (x:Value),VM w v x→Calls Tryz.prog 39 #[x] w fun e w'=>e=.returned (.int .i64 (cnt v:Int))∧New w w':=by
 induction N with
 | zero=>
   intro _ v h
   cases v
   simp only [cnt]at h
   omega
 | succ N ih=>
   intro hmx v hN w x hx
   obtain⟨k,n,t,ks,o,ds⟩:=v
   obtain⟨sk,sd,rfl,hn,hks,hds⟩:=hx.inv
   obtain⟨A1,c1,rfl,hl1,hl1'⟩:=hks.shape
   obtain⟨A2,c2,rfl,hl2,hl2'⟩:=hds.shape
   have hN':1+cnts (ks++ds)≤N+1:=by simp only [cnt]at hN;rw [cnts_append];omega
   have hcv:cnt (.mk k n t ks o ds)=1+cnts (ks++ds):=by simp only [cnt];rw [cnts_append];omega
   have hll:=len_cnts (ks++ds)
   have hla:ks.length+ds.length≤1000000:=by rw [List.length_append]at hll;omega
   have IH:=Lib.hid (ih (by omega))
   obtain⟨cl1,hs1,hm1⟩:=hks
   obtain⟨cl2,hs2,hm2⟩:=hds
   rw [hcv]
   obtain⟨L,hL⟩:∃L,L=ks++ds:=⟨_,rfl⟩
   rw [←hL]at hN' hll ⊢
   have HL:=Lib.hid hL
   have hlenL:L.length=ks.length+ds.length:=by rw [hL,List.length_append]
   clear hl1 hl1' hl2 hl2' hx hN hcv ih
   obtain⟨a,ha⟩:∃a,a=ks.length:=⟨_,rfl⟩
   obtain⟨b,hb⟩:∃b,b=ds.length:=⟨_,rfl⟩
   rw [←ha]at hs1 hlenL hla ⊢
   rw [←hb]at hs2 hlenL hla ⊢
   have M1:=Lib.hid ha
   have M2:=Lib.hid hb
   have kB:=((Keep.refl (fun _=>True) w).alloc (.cells #[.int .i64 k,.int .u64 (n:Int),.string ⟨t.toArray⟩,.slice A1 a c1,.int .i64 o,.slice A2 b c2] 78))
   have k0:=(kB.alloc (.cells #[] 78)).drew
   have hbx:=blk_alloc (blk_new w (.cells #[.int .i64 k,.int .u64 (n:Int),.string ⟨t.toArray⟩,.slice A1 a c1,.int .i64 o,.slice A2 b c2] 78)) (.cells #[] 78)
   have own0:((w.alloc (.cells #[.int .i64 k,.int .u64 (n:Int),.string ⟨t.toArray⟩,.slice A1 a c1,.int .i64 o,.slice A2 b c2] 78)).alloc (.cells #[] 78)).drew.ownsRow w.heap.size 78 6 (.slice (some ⟨w.heap.size+1,0,none⟩) 0 0) 0 []:=
    ⟨rfl,.inr ⟨w.heap.size+1,0,#[],rfl,by omega,by have:=blk_new (w.alloc (.cells #[.int .i64 k,.int .u64 (n:Int),.string ⟨t.toArray⟩,.slice A1 a c1,.int .i64 o,.slice A2 b c2] 78)) (.cells #[] 78);rw [World.size_alloc]at this;exact this,Nat.le_refl _,Nat.zero_le _,rfl,rfl⟩⟩
   obtain⟨sk2,w2,hap1,own2,k2,kk2⟩:=own_app w _ k0 _ _ _ own0 ks _ cl1 (by rw [←M1.out];exact hs1.keep k0) (hm1.keep k0) (by rw [←M1.out];omega)
   have hb2:=kk2.blk (show((w.alloc (.cells #[.int .i64 k,.int .u64 (n:Int),.string ⟨t.toArray⟩,.slice A1 a c1,.int .i64 o,.slice A2 b c2] 78)).alloc (.cells #[] 78)).drew.heap[w.heap.size]? =_ from hbx) (by intro e;injection e with e;simp at e)
   obtain⟨sk3,w3,hap2,own3,k3,kk3⟩:=own_app w _ k2 _ _ _ own2 ds _ cl2 (by rw [←M2.out];exact hs2.keep k2) (hm2.keep k2) (by rw [←M1.out,←M2.out];omega)
   have hLM:LM w3 L sk3:=by
    refine⟨cl1++cl2,?_,by rw [hL];exact(hm1.keep k3).append (hm2.keep k3)⟩
    have:=slM_own own3
    simp only [List.nil_append,Nat.zero_add,←M1.out,←M2.out]at this
    rw [hlenL]
    exact this
   have b3:=(blk_cell hbx 3).trans rfl
   have b5:=(blk_cell hbx 5).trans rfl
   have q3:=(blk_cell (blk_new w (.cells #[.int .i64 k,.int .u64 (n:Int),.string ⟨t.toArray⟩,.slice A1 a c1,.int .i64 o,.slice A2 b c2] 78)) 3).trans rfl
   have q5:=(blk_cell (blk_new w (.cells #[.int .i64 k,.int .u64 (n:Int),.string ⟨t.toArray⟩,.slice A1 a c1,.int .i64 o,.slice A2 b c2] 78)) 5).trans rfl
   have d5:=(blk_cell hb2 5).trans rfl
   have d3:=(blk_cell hb2 3).trans rfl
   have HM:=Lib.hid hLM
   obtain⟨A3,c3,rfl,-,hc3⟩:=hLM.shape
   rw [hlenL]at hap2
   have hlm:L.length≤1000000:=by omega
   obtain⟨m,hm⟩:∃m,m=L.length:=⟨_,rfl⟩
   rw [←hlenL,←hm]at hap2
   rw [←hm]at HM hlm
   have MM:=Lib.hid hm
   have K3:=Lib.hid k3
   have HAP1:=Lib.hid hap1
   have HAP2:=Lib.hid hap2
   have hsk2:∃A c n,sk2=.slice A n c:=by
    rcases own2.2 with⟨e,_⟩ | ⟨g,cap,cur,e,_⟩
    ·exact⟨_,_,_,e⟩
    ·exact⟨_,_,_,e⟩
   obtain⟨A4,c4,n4,rfl⟩:=hsk2
   clear hs1 hs2 hm1 hm2 own0 own2 own3 kk2 kk3 hb2 hbx hL hlenL hll ha hb hm k3 k2 k0 kB hap1 hap2 hLM
   go_enter Tryz.func39,Tryz.ntmps39
   go_upto_region 2 with fail
   go_cut [12,13,14] (fun s12 s13 s14 wc=>s12=.slice A3 m c3∧s13=.int .i64 (m:Int)∧s14=.int .i64 0∧wc=w3)
   case first=>
    go_region_law (first | (refine at_dst 9 (by rfl) ?_;refine step_append_eq HAP1.out (by rfl) _ _ (by rfl) (by rfl) (by rfl) ?_) | (refine at_dst 12 (by rfl) ?_;refine step_append_eq HAP2.out (by rfl) _ _ (by rfl) (by rfl) (by rfl) ?_))
    all_goals (go_wp2_with fail;go_meet;exact⟨rfl,rfl,rfl,rfl⟩)
   case rest=>
    obtain⟨rfl,rfl,rfl,hwc⟩:=hcut
    obtain rfl:w3=wc:=hwc.symm
    clear HAP1 HAP2 b3 b5 q3 q5 d3 d5
    go_wp2_with fail
    go_loopg [3,14] m (fun kk s3 s14 wr=>∃j:Nat,j+kk=m∧s14=.int .i64 (j:Int)∧s3=.int .i64 ((1:Int)+(cnts (L.take j):Int))∧New w3 wr)
    case atStart=>exact⟨0,by omega,rfl,by simp [cnts],Keep.refl _ _⟩
    case round=>
     obtain⟨j,hj,rfl,rfl,kr⟩:=hrel
     rcases gk with _ | kk
     ·obtain rfl:m=j:=by omega
      go_wp2
      go_ret
      refine⟨?_,K3.out.trans kr⟩
      rw [MM.out,List.take_length]
      simp
     ·have hjn:j<m:=by omega
      have tj:decide (j<m)=true:=by simpa using hjn
      have hj1:j<L.length:=by rw [←MM.out];exact hjn
      obtain⟨d2,i2,hAe,-,-,-,hat⟩:=(HM.out.keep kr).at2 (fun h=>by rw [h]at hj1;simp at hj1)
      cases hAe
      obtain⟨e0,e1,e2,e3,e4,e5,hva,g0,g1,g2,g3,g4,g5⟩:=hat j hj1
      obtain⟨ek,en,et,A5,l5,c5,eo,A6,l6,c6,he⟩:=hva.parts
      simp only [Value.agg.injEq,Array.mk.injEq,List.cons.injEq,and_true]at he
      obtain⟨rfl,rfl,rfl,rfl,rfl,rfl⟩:=he
      have hcl:=cnts_get L j hj1
      have hts:=cnts_take L j hj1
      have htl:cnts (L.take (j+1))≤cnts L:=by
       have:=cnts_append (L.take (j+1)) (L.drop (j+1))
       rw [List.take_append_drop]at this
       omega
      obtain⟨cj,hcj⟩:∃cj,cj=cnt L[j]:=⟨_,rfl⟩
      obtain⟨sj,hsj⟩:∃sj,sj=cnts (L.take j):=⟨_,rfl⟩
      have kA:=(Keep.refl (fun _=>True) wr).alloc (.cells #[.int .i64 ek,.int .u64 en,.string et,.slice A5 l5 c5,.int .i64 eo,.slice A6 l6 c6] 78)
      have hcall:=IH.out L[j] (by omega) _ _ (hva.keep kA)
      rw [←hcj]at hcall hts hcl
      rw [←hsj]at hts ⊢
      have hbd:1+sj+cj≤1000001:=by omega
      have HC:=Lib.hid hcall
      have HTS:=Lib.hid hts
      clear hva hat hcall hcj hsj hts htl hcl
      have wr1:IntKind.i64.wrap ((1:Int)+(sj:Int)+(cj:Int))=(1:Int)+(sj:Int)+(cj:Int):=IntWalk.i64_in _ ⟨by omega,by omega⟩
      go_wp2_with fail
      refine HC.out.mono ?_
      rintro e w4 ⟨rfl,k4⟩
      go_wp2
      go_roundg kk
      case measure=>omega
      case rel=>
       refine⟨j+1,by omega,congrArg _ (by omega),?_,(kr.trans kA).trans k4⟩
       rw [HTS.out]
       congr 1
       omega
end Go.Proofs.YtfoegolfadhmjaaGreatDoor
namespace Go.Proofs.YtfoegolfadhmjaaGreatDoor
open Go.RowKit Go.WideShapes Go.Sort
theorem VM.kidsM{w:World}{v:V}{a0 a1 a2 a3 a4 a5:Value}(h:VM w v (.agg #[a0,a1,a2,a3,a4,a5])):LM w v.kids a3∧LM w v.desc a5:=by
 obtain⟨k,n,t,ks,o,ds⟩:=v
 obtain⟨sk,sd,he,-,hk,hd⟩:=h.inv
 simp only [Value.agg.injEq,Array.mk.injEq,List.cons.injEq,and_true]at he
 obtain⟨rfl,rfl,rfl,rfl,rfl,rfl⟩:=he
 exact⟨hk,hd⟩
def Alike1(ks:List V)(j:Nat):Prop:=∀i (h:i<ks.length),i<j→ks[i].kind=(ks.headD (.mk 0 0 [] [] 0 [])).kind∧ks[i].desc.length=(ks.headD (.mk 0 0 [] [] 0 [])).desc.length
def AlikeA(ks:List V):Prop:=∀v∈ks,∀u∈ks,v.kind=u.kind∧v.desc.length=u.desc.length
theorem Alike1.all{ks:List V}(h:Alike1 ks ks.length):AlikeA ks:=by
 intro v hv u hu
 obtain⟨i,hi,rfl⟩:=List.getElem_of_mem hv
 obtain⟨j,hj,rfl⟩:=List.getElem_of_mem hu
 have h1:=h i hi hi
 have h2:=h j hj hj
 exact⟨h1.1.trans h2.1.symm,h1.2.trans h2.2.symm⟩
theorem Alike1.step{ks:List V}{j:Nat}(h:Alike1 ks j)(hj:j<ks.length)(hj0:0<ks.length)(e:ks[j].kind=ks[0].kind∧ks[j].desc.length=ks[0].desc.length):Alike1 ks (j+1):=by
 have e0:ks.headD (.mk 0 0 [] [] 0 [])=ks[0]:=by cases ks with | nil=>simp at hj0 | cons a r=>rfl
 intro i hi hlt
 rcases Nat.lt_or_ge i j with h1 | h1
 ·exact h i hi h1
 ·obtain rfl:i=j:=by omega
  rw [e0]
  exact e
theorem arrFits_is(k:Int)(n:Nat)(t:List UInt8)(ks:List V)(o:Int)(ds:List V)(w:World)(x:Value)(hx:VM w (.mk k n t ks o ds) x):Calls Tryz.prog 141 #[x] w (Yes (AlikeA ks) w):=by
 obtain⟨sk,sd,rfl,hn,hks,hds⟩:=hx.inv
 obtain⟨A1,c1,rfl,_,_⟩:=hks.shape
 obtain⟨A2,c2,rfl,_,_⟩:=hds.shape
 have hml:ks.length≤maxLen:=by omega
 unfold maxLen at hml
 obtain⟨m,hm⟩:∃m,m=ks.length:=⟨_,rfl⟩
 obtain⟨b2,hb2⟩:∃b,b=ds.length:=⟨_,rfl⟩
 rw [←hm]at hks hml ⊢
 rw [←hb2]
 have M:=Lib.hid hm
 have HK:=Lib.hid hks
 clear hx hks hds hm hb2
 by_cases hm0:m=0
 ·subst hm0
  have hv:AlikeA ks:=by
   have:ks=[]:=List.eq_nil_of_length_eq_zero M.out.symm
   rw [this];intro v hv;cases hv
  have HV:=Lib.hid hv
  clear hv
  go_enter Tryz.func141,Tryz.ntmps141
  go_wp2
  all_goals
   go_ret
   exact⟨_,rfl,(Keep.refl _ _).alloc _,fun _=>HV.out⟩
 have hpos:0<m:=by omega
 have t0:((m:Int)==0)=false:=by simp;omega
 have hj0:0<ks.length:=by rw [←M.out];exact hpos
 have HJ0:=Lib.hid hj0
 clear hj0
 go_enter Tryz.func141,Tryz.ntmps141
 go_wp2_with fail
 go_loopg [20] m (fun kk s20 wr=>∃j:Nat,j+kk=m∧s20=.int .i64 (j:Int)∧New w wr∧wr.heap[w.heap.size]? =some (.cells #[.int .i64 k,.int .u64 (n:Int),.string ⟨t.toArray⟩,.slice A1 m c1,.int .i64 o,.slice A2 b2 c2] 78 (0,0))∧Alike1 ks j)
 case atStart=>exact⟨0,by omega,rfl,(Keep.refl _ _).alloc _,blk_new w _,fun i h hlt=>absurd hlt (by omega)⟩
 case round=>
  obtain⟨j,hj,rfl,kr,hb,hal⟩:=hrel
  rcases gk with _ | kk
  ·obtain rfl:m=j:=by omega
   rw [M.out]at hal
   have HV:=Lib.hid hal.all
   have b4:=(blk_cell hb 4).trans rfl
   clear hal
   go_wp2
   go_ret
   exact⟨_,rfl,kr,fun _=>HV.out⟩
  ·have hjn:j<m:=by omega
   have tj:decide (j<m)=true:=by simpa using hjn
   have hj1:j<ks.length:=by rw [←M.out];exact hjn
   have STEP:=Lib.hid (hal.step hj1 HJ0.out)
   obtain⟨d,i,hAe,-,-,-,hat⟩:=(HK.out.keep kr).at2 (fun h=>by rw [h]at hj1;simp at hj1)
   cases hAe
   obtain⟨a0,a1,a2,a3,a4,a5,hva,g0,g1,g2,g3,g4,g5⟩:=hat j hj1
   obtain⟨e0,e1,e2,e3,e4,e5,hve,y0,y1,y2,y3,y4,y5⟩:=hat 0 HJ0.out
   simp only [Nat.zero_mul,Nat.add_zero]at y0 y1 y2 y3 y4 y5
   obtain⟨-,HDA⟩:=hva.kidsM
   obtain⟨-,HDE⟩:=hve.kidsM
   obtain⟨A3,c3,o3,A4,c4,heq,-,-⟩:=hva.parts'
   simp only [Value.agg.injEq,Array.mk.injEq,List.cons.injEq,and_true]at heq
   obtain⟨rfl,rfl,rfl,rfl,rfl,rfl⟩:=heq
   obtain⟨A5,c5,o5,A6,c6,heq,-,-⟩:=hve.parts'
   simp only [Value.agg.injEq,Array.mk.injEq,List.cons.injEq,and_true]at heq
   obtain⟨rfl,rfl,rfl,rfl,rfl,rfl⟩:=heq
   obtain⟨u,hu⟩:∃u,u=ks[j]:=⟨_,rfl⟩
   obtain⟨v0,hv0⟩:∃v0,v0=ks[0]'HJ0.out:=⟨_,rfl⟩
   rw [←hu]at g0 g1 g2 g3 g5 HDA STEP
   rw [←hv0]at y0 y1 y2 y3 y5 HDE STEP
   clear hva hve hat hu hv0 hal hj1
   obtain⟨mu,hmu⟩:∃mu,mu=u.desc.length:=⟨_,rfl⟩
   obtain⟨mv,hmv⟩:∃mv,mv=v0.desc.length:=⟨_,rfl⟩
   rw [←hmu]at g5 HDA STEP
   rw [←hmv]at y5 HDE STEP
   have MU:=Lib.hid hmu
   have MV:=Lib.hid hmv
   clear hmu hmv
   have kA:=(Keep.refl (fun _=>True) wr).alloc (.cells #[.int .i64 u.kind,.int .u64 (u.num:Int),.string ⟨u.text.toArray⟩,.slice A3 u.kids.length c3,.int .i64 o3,.slice A4 mu c4] 78)
   have krA:=kr.trans kA
   have hbA:=kA.blk hb trivial
   have x3:=(blk_cell hbA 3).trans rfl
   have hkb:=blk_new wr (.cells #[.int .i64 u.kind,.int .u64 (u.num:Int),.string ⟨u.text.toArray⟩,.slice A3 u.kids.length c3,.int .i64 o3,.slice A4 mu c4] 78)
   have z0:=(blk_cell hkb 0).trans rfl
   have z5:=(blk_cell hkb 5).trans rfl
   have w0:=kA.cell y0 trivial
   have w5:=kA.cell y5 trivial
   have x3':=fun q os=>cell_regrown x3 q os
   have z0':=fun q os=>cell_regrown z0 q os
   have z5':=fun q os=>cell_regrown z5 q os
   have w0':=fun q os=>cell_regrown w0 q os
   have w5':=fun q os=>cell_regrown w5 q os
   clear hbA hkb
   by_cases hkk:u.kind=v0.kind
   case neg=>
    have t1:(u.kind==v0.kind)=false:=by simpa using hkk
    have t1':(u.kind !=v0.kind)=true:=by simpa using hkk
    go_wp2_with fail
    refine wp_region_quiet_below (by kernel_rfl) (by kernel_rfl) ?_
    repeat (go_big_quiet_step (fail))
    refine wpQuiet_nil ?_
    intro _ hw'
    obtain⟨⟨dq,osq⟩,hw''⟩:=hw'
    subst hw''
    have kr4:=(krA.trans (new_regrown _ dq osq))
    go_wp2
    go_ret
    exact Yes.no kr4
   have t1:(u.kind==v0.kind)=true:=by simpa using hkk
   have t1':(u.kind !=v0.kind)=false:=by simpa using hkk
   have HKK:=Lib.hid hkk
   clear hkk
   by_cases hdd:mu=mv
   case neg=>
    have t2:((mu:Int)==(mv:Int))=false:=by simp;omega
    have t2':((mu:Int) !=(mv:Int))=true:=by simp;omega
    go_wp2_with fail
    refine wp_region_quiet_below (by kernel_rfl) (by kernel_rfl) ?_
    repeat (go_big_quiet_step (fail))
    refine wpQuiet_nil ?_
    intro _ hw'
    obtain⟨⟨dq,osq⟩,hw''⟩:=hw'
    subst hw''
    have kr4:=(krA.trans (new_regrown _ dq osq))
    go_wp2
    go_ret
    exact Yes.no kr4
   subst hdd
   by_cases h1:mu=1
   case neg=>
    have t3:((mu:Int)==1)=false:=by simp;omega
    go_wp2_with fail
    refine wp_region_quiet_below (by kernel_rfl) (by kernel_rfl) ?_
    repeat (go_big_quiet_step (fail))
    refine wpQuiet_nil ?_
    intro _ hw'
    obtain⟨⟨dq,osq⟩,hw''⟩:=hw'
    subst hw''
    have kr4:=(krA.trans (new_regrown _ dq osq))
    go_wp2
    go_roundg kk
    case measure=>omega
    case rel=>exact⟨j+1,by omega,congrArg _ (by omega),kr4,(new_regrown _ dq osq).blk (kA.blk hb trivial) trivial,STEP.out ⟨HKK.out,(by first | rfl | trivial)⟩⟩
   subst h1
   obtain⟨p,hp⟩:∃p,u.desc=[p]:=List.length_eq_one_iff.1 MU.out.symm
   obtain⟨q,hq⟩:∃q,v0.desc=[q]:=List.length_eq_one_iff.1 MV.out.symm
   rw [hp]at HDA
   rw [hq]at HDE
   obtain⟨da,ia,hAe,-,-,-,hata⟩:=HDA.at2 (by simp)
   cases hAe
   obtain⟨de,ie,hAe,-,-,-,hate⟩:=HDE.at2 (by simp)
   cases hAe
   obtain⟨p0,p1,p2,p3,p4,p5,hvp,r0,r1,r2,r3,r4,r5⟩:=hata 0 (by simp)
   obtain⟨q0,q1,q2,q3,q4,q5,hvq,s0,s1,s2,s3,s4,s5⟩:=hate 0 (by simp)
   simp only [List.getElem_cons_zero,Nat.zero_mul,Nat.add_zero]at hvp hvq r0 r1 r2 r3 r4 r5 s0 s1 s2 s3 s4 s5
   obtain⟨bb,hbb⟩:∃bb,bb=sameV p q:=⟨_,rfl⟩
   have cQ:=fun dq os=>regrown_new (v:=.bool bb) ((same_val _ p q (Nat.le_refl _) (grow (redrawn (wr.alloc (.cells #[.int .i64 u.kind,.int .u64 (u.num:Int),.string ⟨u.text.toArray⟩,.slice A3 u.kids.length c3,.int .i64 o3,.slice (some ⟨da,ia,none⟩) 1 c4] 78)) dq) os) _ _ (hvp.keep (kA.trans (new_regrown _ dq os))) (hvq.keep (kA.trans (new_regrown _ dq os)))).mono fun e w' h=>⟨by rw [hbb];exact h.1,h.2⟩)
   have CQ:=Lib.hid cQ
   have r0':=fun q os=>cell_regrown (kA.cell r0 trivial) q os
   have s0':=fun q os=>cell_regrown (kA.cell s0 trivial) q os
   have r1':=fun q os=>cell_regrown (kA.cell r1 trivial) q os
   have s1':=fun q os=>cell_regrown (kA.cell s1 trivial) q os
   have r2':=fun q os=>cell_regrown (kA.cell r2 trivial) q os
   have s2':=fun q os=>cell_regrown (kA.cell s2 trivial) q os
   have r3':=fun q os=>cell_regrown (kA.cell r3 trivial) q os
   have s3':=fun q os=>cell_regrown (kA.cell s3 trivial) q os
   have r4':=fun q os=>cell_regrown (kA.cell r4 trivial) q os
   have s4':=fun q os=>cell_regrown (kA.cell s4 trivial) q os
   have r5':=fun q os=>cell_regrown (kA.cell r5 trivial) q os
   have s5':=fun q os=>cell_regrown (kA.cell s5 trivial) q os
   clear hata hate hvp hvq HDA HDE cQ hbb hp hq
   have cQ:=CQ.out
   go_wp2_with fail
   refine wp_region_quiet_below (by kernel_rfl) (by kernel_rfl) ?_
   repeat (go_big_quiet_step (first | exact cQ _ _))
   refine wpQuiet_nil ?_
   intro _ hw'
   obtain⟨⟨dq,osq⟩,hw''⟩:=hw'
   subst hw''
   have kr4:=(krA.trans (new_regrown _ dq osq))
   cases bb
   ·go_wp2
    go_ret
    exact Yes.no kr4
   ·go_wp2
    go_roundg kk
    case measure=>omega
    case rel=>exact⟨j+1,by omega,congrArg _ (by omega),kr4,(new_regrown _ dq osq).blk (kA.blk hb trivial) trivial,STEP.out ⟨HKK.out,(by first | rfl | trivial)⟩⟩
end Go.Proofs.YtfoegolfadhmjaaGreatDoor
