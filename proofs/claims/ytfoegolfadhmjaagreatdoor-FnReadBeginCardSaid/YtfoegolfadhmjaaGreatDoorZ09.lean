/- impl.textPairs: maps whose keys are texts, as keys and values by turns. -/
import Derived.Test.YtfoegolfadhmjaaGreatDoorZ07
set_option linter.all false
set_option maxRecDepth 100000
set_option maxHeartbeats 8000000
namespace Go.Proofs.YtfoegolfadhmjaaGreatDoor
open Go.RowKit Go.WideShapes
structure TMap(w:World)(m:Nat)(es:Array MapEntry)(clock:Nat)(ps:List (V×V)):Prop where
 here:w.heap[m]? =some (.map es clock)
 born:Born es clock
 size:es.size=ps.length
 key:∀j (hj:j<ps.length) (he:j<es.size),es[j].key=.string ⟨ps[j].1.text.toArray⟩
 val:∀j (hj:j<ps.length) (he:j<es.size),ValOK w ps[j].2 es[j].val
 once:(ps.map fun q=>q.1.text).Nodup
theorem TMap.keys{w:World}{m:Nat}{es:Array MapEntry}{clock:Nat}{ps:List (V×V)}(h:TMap w m es clock ps):es.toList.map (·.key)=(ps.map fun q=>q.1.text).map fun t=>Value.string ⟨t.toArray⟩:=by
 apply List.ext_getElem
 ·simp [h.size]
 ·intro j h1 h2
  simp only [List.getElem_map,Array.getElem_toList]
  exact h.key j (by simpa using h2) (by simpa using h1)
theorem TMap.keys_once{w:World}{m:Nat}{es:Array MapEntry}{clock:Nat}{ps:List (V×V)}(h:TMap w m es clock ps):(es.toList.map (·.key)).Nodup:=by
 rw [h.keys]
 refine List.Pairwise.map _ (fun a b hab e=>hab ?_) h.once
 injection e with e
 injection e with e
 simpa using e
theorem TMap.text{w:World}{m:Nat}{es:Array MapEntry}{clock:Nat}{ps:List (V×V)}(h:TMap w m es clock ps):∀e∈es.toList,∃t:List UInt8,e.key=.string ⟨t.toArray⟩:=fun e he=>by
 have:e.key∈es.toList.map (·.key):=List.mem_map.2 ⟨e,he,rfl⟩
 rw [h.keys]at this
 obtain⟨t,_,ht⟩:=List.mem_map.1 this
 exact⟨t,ht.symm⟩
theorem map_inj{α β:Type}{f:α→β}(inj:∀x y,f x=f y→x=y):∀{l m:List α},l.map f=m.map f→l=m
 | [],[],_=>rfl
 | [],_::_,h=>by simp at h
 | _::_,[],h=>by simp at h
 | x::l,y::m,h=>by
   simp only [List.map_cons,List.cons.injEq]at h
   rw [inj _ _ h.1,map_inj inj h.2]
theorem perm_of_map{α β:Type}{f:α→β}(inj:∀x y,f x=f y→x=y){l m:List α}(h:(l.map f).Perm (m.map f)):l.Perm m:=by
 obtain⟨qs,h1,h2⟩:=lift_perm f (l.map f) m h
 rw [←map_inj inj h2]
 exact h1.symm
theorem flat2_take_succ(ps:List (V×V))(j:Nat)(hj:j<ps.length):flat2 (ps.take (j+1))=flat2 (ps.take j)++[ps[j].1,ps[j].2]:=by
 induction ps generalizing j with
 | nil=>simp at hj
 | cons q ps ih=>
   cases j with
   | zero=>rfl
   | succ j=>
     simp only [List.take_succ_cons,flat2,List.getElem_cons_succ]
     rw [ih j (by simpa using hj)]
     rfl
theorem textPairs_str(k:Int)(hk:k=19∨k=20)(m:Nat)(es:Array MapEntry)(clock:Nat)(ps:List (V×V))(w:World)(hM:TMap w m es clock ps)(hmax:ps.length≤1000)(hkey:∀q∈ps,∃k0 o,q.1=.mk k0 0 q.1.text [] o []∧(k0=k∨k0=20∧k=19)):
 Calls Tryz.prog 81 #[.int .i64 k,.map (some m)] w fun e w'=>∃s us qs,e=.returned (.tuple #[s,.bool true])∧New w w'∧ps.Perm qs∧Sims (flat2 qs) us∧us.length=2*ps.length∧Dep (fun b=>w.heap.size≤b) w' (fun w=>LM w us s):=by
 have hrg:=range_map w 96 9 20 m es clock Tryz.underlying96 hM.here
 have HM:=Lib.hid hM
 have HKEY:=Lib.hid hkey
 have HKK:=Lib.hid hk
 have hpl:es.size=ps.length:=hM.size
 clear hM hkey hk
 go_enter Tryz.func81,Tryz.ntmps81
 go_wp2_with fail
 have hlt:=lt_blk HM.out.here
 go_loopg [6] es.size (fun kk s6 wr=>New w wr∧∃(seen:Array Nat) (c:Nat) (picked:List MapEntry) (ts:List (List UInt8)),wr.heap[w.heap.size]? =some (.mapIter (some m) clock seen c)∧clock≤c∧(leftOf es seen).size≤kk∧es.toList.Perm (picked++(leftOf es seen).toList)∧picked.map (·.key)=(ts.map fun t=>Value.string ⟨t.toArray⟩)∧RowS wr (w.heap.size+1) s6 ts)
 case atStart=>
  refine⟨(Keep.refl _ _).alloc _,#[],clock,[],[],blk_new _ _,Nat.le_refl _,?_,?_,rfl,RowS.nil⟩
  ·unfold leftOf
   exact Array.size_filter_le ..
  ·have:leftOf es #[]=es:=by
    unfold leftOf
    exact Array.filter_eq_self.2 (by simp)
   rw [this]
   exact List.Perm.refl _
 case round=>
  obtain⟨kr,seen,c,picked,ts,hit,hcl,hleft,hpk,hpt,hrow⟩:=hrel
  have hbr:=kr.blk HM.out.here trivial
  have LF:=Lib.hid hleft
  have PK:=Lib.hid hpk
  have PT:=Lib.hid hpt
  have hlen:ts.length≤ps.length:=by
   have h1:=congrArg List.length hpt
   have h2:=hpk.length_eq
   simp at h1 h2
   omega
  clear hleft hpk hpt
  obtain⟨A6,c6,rfl⟩:=hrow.shape
  have hits:=lt_blk hit
  rcases next_map wr w.heap.size m clock c seen es clock hit hbr HM.out.born.2 hcl with⟨h0,hnx⟩ | ⟨e,he,w1,hnx,hit1,k1⟩
  ·have hperm:ts.Perm (ps.map fun q=>q.1.text):=by
    have h1:=PK.out
    rw [List.eq_nil_of_length_eq_zero (l:=(leftOf es seen).toList) (by simpa using h0),List.append_nil]at h1
    have h2:=h1.map (·.key)
    rw [PT.out,HM.out.keys]at h2
    have inj:∀x y:List UInt8,Value.string ⟨x.toArray⟩=Value.string ⟨y.toArray⟩→x=y:=fun x y hxy=>by
     injection hxy with hxy
     injection hxy with hxy
     simpa using hxy
    exact(perm_of_map inj h2).symm
   have HP:=Lib.hid hperm
   clear hperm h0 hrg
   have fin:Calls Tryz.prog 90 #[.slice A6 ts.length c6] wr fun e w'=>e=.returned (.tuple #[])∧New w w'∧∃ts':List (List UInt8),ts'.Perm ts∧∀w2,New w' w2→∀j (hj:j<ts'.length),∃g,A6=some ⟨g,0,none⟩∧w2.cell? ⟨g,j,none⟩=some (.string ⟨ts'[j].toArray⟩):=by
    rcases hrow.cases with⟨he,hts⟩ | ⟨g,cap,cur,he,hg,hb,hat⟩
    ·subst hts
     injection he with e1 e2 e3
     subst e1;subst e3
     refine(Tryz.sort_Strings_none none 0 wr).mono ?_
     rintro e w' ⟨rfl,rfl⟩
     exact⟨rfl,kr,[],List.Perm.refl _,fun w2 _ j hj=>absurd hj (by simp)⟩
    ·injection he with e1 e2 e3
     subst e1;subst e3
     refine(sort_texts g c6 cur ts wr hb hat (by omega)).mono ?_
     rintro e w' ⟨rfl,ks,ts',cur',hp,hb',hat'⟩
     exact⟨rfl,kr.then ks (fun i hi _=>by omega),ts',hp,fun w2 k2 j hj=>⟨g,rfl,by rw [blk_cell (k2.blk hb' trivial)];exact hat' j hj⟩⟩
   have FIN:=Lib.hid fin
   clear fin hit hrow
   go_wp2_with fail
   refine FIN.out.mono ?_
   rintro e w2 ⟨rfl,k2,ts',hp',hat⟩
   obtain⟨qs,hpq,hqs⟩:=lift_perm (fun q:V×V=>q.1.text) ts' ps (hp'.trans HP.out)
   obtain⟨n,hn⟩:∃n,n=qs.length:=⟨_,rfl⟩
   have hn1:ts.length=n:=by rw [hn,←hp'.length_eq,←hqs,List.length_map]
   have hn2:n≤1000:=by rw [hn,←hpq.length_eq];exact hmax
   rw [hn1]
   have N:=Lib.hid hn
   have PQ:=Lib.hid hpq
   have AT:=Lib.hid hat
   have QS:=Lib.hid hqs
   have HP2:=Lib.hid hp'
   clear hn hpq hat hqs hp' hn1
   have hsz2:=k2.size
   go_wp2_with fail
   go_loopg [8,27] n (fun kk s8 s27 wq=>∃(j:Nat) (us:List V),j+kk=n∧s27=.int .i64 (j:Int)∧us.length=2*j∧New w2 wq∧Sims (flat2 (qs.take j)) us∧RowV wq w2.heap.size s8 us)
   case atStart=>exact⟨0,[],by omega,rfl,rfl,Keep.refl _ _,.nil,RowV.nil⟩
   case round=>
    obtain⟨j,us,hj,rfl,hus,kq,hsim,hrow⟩:=hrel
    have SIM:=Lib.hid hsim
    clear hsim
    obtain⟨A,cc,rfl⟩:=hrow.shape
    rw [hus]at hrow ⊢
    rcases gk with _ | kk
    ·obtain rfl:j=n:=by omega
     have HO:=Lib.hid hrow.out
     clear hrow
     go_wp2
     go_ret2
     refine⟨_,us,qs,rfl,k2.trans kq,PQ.out,?_,by rw [hus,PQ.out.length_eq,N.out],HO.out.mono fun k _ hk=>by omega⟩
     have:=SIM.out
     rwa [N.out,List.take_length]at this
    ·have hjn:j<n:=by omega
     have tj:decide (j<n)=true:=by simpa using hjn
     have hjq:j<qs.length:=by rw [←N.out];exact hjn
     have hjt:j<ts'.length:=by rw [←QS.out,List.length_map];exact hjq
     obtain⟨g,rfl,hcell⟩:=AT.out wr kq j hjt
     have htj:ts'[j]=qs[j].1.text:=by
      have:=QS.out
      subst this
      simp
     rw [htj]at hcell
     have hmem:qs[j]∈ps:=PQ.out.mem_iff.2 (List.getElem_mem hjq)
     obtain⟨i,hi,hiq⟩:=List.getElem_of_mem hmem
     have hie:i<es.size:=by omega
     have kwq:=k2.trans kq
     have hlk:=lookup_text wr 96 9 Tryz.underlying96 Tryz.underlying9 m es clock (kwq.blk HM.out.here trivial) ⟨qs[j].1.text.toArray⟩ es[i] (by simp) (by rw [HM.out.key i hi hie,hiq]) (fun x hx=>by obtain⟨t,ht⟩:=HM.out.text x hx;exact⟨_,ht⟩) HM.out.keys_once
     have hcall:=HM.out.val i hi hie wr kwq
     rw [hiq]at hcall
     obtain⟨k0,o,hqo,hk0⟩:=HKEY.out qs[j] hmem
     have HK0:=Lib.hid hk0
     clear hk0
     obtain⟨tj',ht'⟩:∃t,t=qs[j].1.text:=⟨_,rfl⟩
     obtain⟨x,hx⟩:∃x,x=es[i].val:=⟨_,rfl⟩
     rw [←ht']at hcell hlk hqo
     rw [←hx]at hlk hcall
     have HC:=Lib.hid hcall
     have QO:=Lib.hid hqo
     clear hcall hx hiq hqo ht' htj
     go_wp2_with fail
     refine HC.out.mono ?_
     rintro e w4 ⟨y,u,rfl,k4,hs4,hv4⟩
     obtain⟨yk,yn,yt,A1,l1,c1,yo,A2,l2,c2,rfl⟩:=hv4.here.parts
     have e1:=kq.size
     have e2:=k4.size
     have kA:=((Keep.refl (fun _=>True) w4).alloc (.cells #[.int .i64 yk,.int .u64 yn,.string yt,.slice A1 l1 c1,.int .i64 yo,.slice A2 l2 c2] 78)).alloc (.cells #[.int .i64 k,.int .u64 0,.string ⟨tj'.toArray⟩,.slice none 0 0,.int .i64 0,.slice none 0 0,.int .i64 yk,.int .u64 yn,.string yt,.slice A1 l1 c1,.int .i64 yo,.slice A2 l2 c2] 78)
     have hrow4:=(hrow.keep k4 (fun _ _=>trivial)).keep kA (fun _ _=>trivial)
     have e3:=kA.size
     have hfar:∀g,Value.ownBlock (.slice A (2*j) cc)=some g→g<wr.heap.size:=fun g hg=>hrow.ownLt hg
     have hfar2:=hrow.far
     obtain⟨g5,c5,w5,hap,hrow5,k5⟩:=hrow4.step (vs:=[.mk k 0 tj' [] 0 [],u]) (w4.heap.size+1) 0 2 [.int .i64 k,.int .u64 0,.string ⟨tj'.toArray⟩,.slice none 0 0,.int .i64 0,.slice none 0 0,.int .i64 yk,.int .u64 yn,.string yt,.slice A1 l1 c1,.int .i64 yo,.slice A2 l2 c2]
      (fun q z hq=>by
       have hb:=blk_new (w4.alloc (.cells #[.int .i64 yk,.int .u64 yn,.string yt,.slice A1 l1 c1,.int .i64 yo,.slice A2 l2 c2] 78)) (.cells #[.int .i64 k,.int .u64 0,.string ⟨tj'.toArray⟩,.slice none 0 0,.int .i64 0,.slice none 0 0,.int .i64 yk,.int .u64 yn,.string yt,.slice A1 l1 c1,.int .i64 yo,.slice A2 l2 c2] 78)
       simp only [World.size_alloc]at hb
       rw [blk_cell hb,Nat.zero_add]
       simpa using hq)
      ((hv4.imp fun w9 h=>(mem_plain w9 k 0 tj' (by omega)).append h.mem).step kA.size (fun i hi _=>kA.block i hi trivial) (fun z hz hb=>⟨by omega,fun e=>by have:=hfar _ e.symm;omega⟩)) (by simp) (by simp;omega) (by omega)
     rw [hus]at hap hrow5
     simp only [List.length_cons,List.length_nil]at hap hrow5
     have HAP:=Lib.hid hap
     have HS4:=Lib.hid hs4
     clear hap hs4 hv4 hrow hrow4 hlk
     go_wp2_with (at_builtin;refine wpList_append_eq rfl _ _ 43 rfl _ _ _ _ rfl rfl HAP.out ?_)
     go_roundg kk
     case measure=>omega
     case rel=>
      refine⟨j+1,us++[.mk k 0 tj' [] 0 [],u],by omega,congrArg _ (by omega),by simp [hus];omega,((kq.trans k4).trans kA).then k5 (fun i hi _=>hfar2 i hi),?_,hrow5⟩
      rw [flat2_take_succ qs j hjq]
      refine SIM.out.app ?_
      have hleaf:=Sims.leaf (k:=k0) (k':=k) (n:=0) (t:=tj') (o:=o) (o':=0) (by have:=HKK.out;have:=HK0.out;omega) (by have:=HK0.out;omega) (fun _=>rfl) HS4.out
      rw [←QO.out]at hleaf
      exact hleaf
  ·have hem:=mem_left he
   have hsh:=left_shrinks es seen e he
   have hen:=entry_map w1 w.heap.size m clock seen es clock e hit1 (k1.blk hbr (show m≠w.heap.size by omega)) hem.1 HM.out.born.1
   obtain⟨t,ht⟩:=HM.out.text e hem.1
   rw [ht]at hnx hen
   have HE:=Lib.hid he
   have hrow1:=hrow.keep k1 (fun b hb=>by show b≠w.heap.size;omega)
   have hs1:=k1.size
   have hs0:=kr.size
   have hrow2:=hrow1.keep ((Keep.refl (fun _=>True) w1).alloc (.cells #[.string ⟨t.toArray⟩] 9)) (fun _ _=>trivial)
   obtain⟨g5,c5,w5,hap,hrow5,k5⟩:=hrow2.step t w1.heap.size 1 (blk_new _ _) (by omega) (by simp;omega)
   have hfar:=hrow.far
   have HAP:=Lib.hid hap
   have HT:=Lib.hid ht
   have hit5:=k5.blk (blk_alloc hit1 (.cells #[.string ⟨t.toArray⟩] 9)) (hfar _ (by omega))
   clear hap ht hrow hrow1 hrow2 hrg he
   go_wp2_with (at_builtin;refine wpList_append_eq rfl _ _ 52 rfl _ _ _ _ rfl rfl HAP.out ?_)
   go_roundg (leftOf es (seen.push e.born)).size
   case measure=>have:=LF.out;omega
   case rel=>
    refine⟨((kr.then k1 (fun i hi _=>by show i≠w.heap.size;omega)).alloc _).then k5 (fun i hi _=>hfar i (by omega)),seen.push e.born,clock,picked++[e],ts++[t],hit5,Nat.le_refl _,Nat.le_refl _,?_,?_,hrow5⟩
    ·rw [List.append_assoc]
     exact PK.out.trans ((left_perm es seen e HM.out.born.1 HE.out).append_left picked)
    ·rw [List.map_append,List.map_append,PT.out]
     simp [HT.out]
theorem textPairs_sym(k:Int)(hk:k=19∨k=20)(m:Nat)(es:Array MapEntry)(clock:Nat)(ps:List (V×V))(w:World)(hM:TMap w m es clock ps)(hmax:ps.length≤1000)(hkey:∀q∈ps,∃k0 o,q.1=.mk k0 0 q.1.text [] o []∧(k0=k∨k0=20∧k=19)):
 Calls Tryz.prog 75 #[.int .i64 k,.map (some m)] w fun e w'=>∃s us qs,e=.returned (.tuple #[s,.bool true])∧New w w'∧ps.Perm qs∧Sims (flat2 qs) us∧us.length=2*ps.length∧Dep (fun b=>w.heap.size≤b) w' (fun w=>LM w us s):=by
 have hrg:=range_map w 111 158 20 m es clock Tryz.underlying111 hM.here
 have HM:=Lib.hid hM
 have HKEY:=Lib.hid hkey
 have HKK:=Lib.hid hk
 have hpl:es.size=ps.length:=hM.size
 clear hM hkey hk
 go_enter Tryz.func75,Tryz.ntmps75
 go_wp2_with fail
 have hlt:=lt_blk HM.out.here
 go_loopg [6] es.size (fun kk s6 wr=>New w wr∧∃(seen:Array Nat) (c:Nat) (picked:List MapEntry) (ts:List (List UInt8)),wr.heap[w.heap.size]? =some (.mapIter (some m) clock seen c)∧clock≤c∧(leftOf es seen).size≤kk∧es.toList.Perm (picked++(leftOf es seen).toList)∧picked.map (·.key)=(ts.map fun t=>Value.string ⟨t.toArray⟩)∧RowS wr (w.heap.size+1) s6 ts)
 case atStart=>
  refine⟨(Keep.refl _ _).alloc _,#[],clock,[],[],blk_new _ _,Nat.le_refl _,?_,?_,rfl,RowS.nil⟩
  ·unfold leftOf
   exact Array.size_filter_le ..
  ·have:leftOf es #[]=es:=by
    unfold leftOf
    exact Array.filter_eq_self.2 (by simp)
   rw [this]
   exact List.Perm.refl _
 case round=>
  obtain⟨kr,seen,c,picked,ts,hit,hcl,hleft,hpk,hpt,hrow⟩:=hrel
  have hbr:=kr.blk HM.out.here trivial
  have LF:=Lib.hid hleft
  have PK:=Lib.hid hpk
  have PT:=Lib.hid hpt
  have hlen:ts.length≤ps.length:=by
   have h1:=congrArg List.length hpt
   have h2:=hpk.length_eq
   simp at h1 h2
   omega
  clear hleft hpk hpt
  obtain⟨A6,c6,rfl⟩:=hrow.shape
  have hits:=lt_blk hit
  rcases next_map wr w.heap.size m clock c seen es clock hit hbr HM.out.born.2 hcl with⟨h0,hnx⟩ | ⟨e,he,w1,hnx,hit1,k1⟩
  ·have hperm:ts.Perm (ps.map fun q=>q.1.text):=by
    have h1:=PK.out
    rw [List.eq_nil_of_length_eq_zero (l:=(leftOf es seen).toList) (by simpa using h0),List.append_nil]at h1
    have h2:=h1.map (·.key)
    rw [PT.out,HM.out.keys]at h2
    have inj:∀x y:List UInt8,Value.string ⟨x.toArray⟩=Value.string ⟨y.toArray⟩→x=y:=fun x y hxy=>by
     injection hxy with hxy
     injection hxy with hxy
     simpa using hxy
    exact(perm_of_map inj h2).symm
   have HP:=Lib.hid hperm
   clear hperm h0 hrg
   have fin:Calls Tryz.prog 90 #[.slice A6 ts.length c6] wr fun e w'=>e=.returned (.tuple #[])∧New w w'∧∃ts':List (List UInt8),ts'.Perm ts∧∀w2,New w' w2→∀j (hj:j<ts'.length),∃g,A6=some ⟨g,0,none⟩∧w2.cell? ⟨g,j,none⟩=some (.string ⟨ts'[j].toArray⟩):=by
    rcases hrow.cases with⟨he,hts⟩ | ⟨g,cap,cur,he,hg,hb,hat⟩
    ·subst hts
     injection he with e1 e2 e3
     subst e1;subst e3
     refine(Tryz.sort_Strings_none none 0 wr).mono ?_
     rintro e w' ⟨rfl,rfl⟩
     exact⟨rfl,kr,[],List.Perm.refl _,fun w2 _ j hj=>absurd hj (by simp)⟩
    ·injection he with e1 e2 e3
     subst e1;subst e3
     refine(sort_texts g c6 cur ts wr hb hat (by omega)).mono ?_
     rintro e w' ⟨rfl,ks,ts',cur',hp,hb',hat'⟩
     exact⟨rfl,kr.then ks (fun i hi _=>by omega),ts',hp,fun w2 k2 j hj=>⟨g,rfl,by rw [blk_cell (k2.blk hb' trivial)];exact hat' j hj⟩⟩
   have FIN:=Lib.hid fin
   clear fin hit hrow
   go_wp2_with fail
   refine FIN.out.mono ?_
   rintro e w2 ⟨rfl,k2,ts',hp',hat⟩
   obtain⟨qs,hpq,hqs⟩:=lift_perm (fun q:V×V=>q.1.text) ts' ps (hp'.trans HP.out)
   obtain⟨n,hn⟩:∃n,n=qs.length:=⟨_,rfl⟩
   have hn1:ts.length=n:=by rw [hn,←hp'.length_eq,←hqs,List.length_map]
   have hn2:n≤1000:=by rw [hn,←hpq.length_eq];exact hmax
   rw [hn1]
   have N:=Lib.hid hn
   have PQ:=Lib.hid hpq
   have AT:=Lib.hid hat
   have QS:=Lib.hid hqs
   have HP2:=Lib.hid hp'
   clear hn hpq hat hqs hp' hn1
   have hsz2:=k2.size
   go_wp2_with fail
   go_loopg [8,27] n (fun kk s8 s27 wq=>∃(j:Nat) (us:List V),j+kk=n∧s27=.int .i64 (j:Int)∧us.length=2*j∧New w2 wq∧Sims (flat2 (qs.take j)) us∧RowV wq w2.heap.size s8 us)
   case atStart=>exact⟨0,[],by omega,rfl,rfl,Keep.refl _ _,.nil,RowV.nil⟩
   case round=>
    obtain⟨j,us,hj,rfl,hus,kq,hsim,hrow⟩:=hrel
    have SIM:=Lib.hid hsim
    clear hsim
    obtain⟨A,cc,rfl⟩:=hrow.shape
    rw [hus]at hrow ⊢
    rcases gk with _ | kk
    ·obtain rfl:j=n:=by omega
     have HO:=Lib.hid hrow.out
     clear hrow
     go_wp2
     go_ret2
     refine⟨_,us,qs,rfl,k2.trans kq,PQ.out,?_,by rw [hus,PQ.out.length_eq,N.out],HO.out.mono fun k _ hk=>by omega⟩
     have:=SIM.out
     rwa [N.out,List.take_length]at this
    ·have hjn:j<n:=by omega
     have tj:decide (j<n)=true:=by simpa using hjn
     have hjq:j<qs.length:=by rw [←N.out];exact hjn
     have hjt:j<ts'.length:=by rw [←QS.out,List.length_map];exact hjq
     obtain⟨g,rfl,hcell⟩:=AT.out wr kq j hjt
     have htj:ts'[j]=qs[j].1.text:=by
      have:=QS.out
      subst this
      simp
     rw [htj]at hcell
     have hmem:qs[j]∈ps:=PQ.out.mem_iff.2 (List.getElem_mem hjq)
     obtain⟨i,hi,hiq⟩:=List.getElem_of_mem hmem
     have hie:i<es.size:=by omega
     have kwq:=k2.trans kq
     have hlk:=lookup_text wr 111 158 Tryz.underlying111 Tryz.underlying158 m es clock (kwq.blk HM.out.here trivial) ⟨qs[j].1.text.toArray⟩ es[i] (by simp) (by rw [HM.out.key i hi hie,hiq]) (fun x hx=>by obtain⟨t,ht⟩:=HM.out.text x hx;exact⟨_,ht⟩) HM.out.keys_once
     have hcall:=HM.out.val i hi hie wr kwq
     rw [hiq]at hcall
     obtain⟨k0,o,hqo,hk0⟩:=HKEY.out qs[j] hmem
     have HK0:=Lib.hid hk0
     clear hk0
     obtain⟨tj',ht'⟩:∃t,t=qs[j].1.text:=⟨_,rfl⟩
     obtain⟨x,hx⟩:∃x,x=es[i].val:=⟨_,rfl⟩
     rw [←ht']at hcell hlk hqo
     rw [←hx]at hlk hcall
     have HC:=Lib.hid hcall
     have QO:=Lib.hid hqo
     clear hcall hx hiq hqo ht' htj
     go_wp2_with fail
     refine HC.out.mono ?_
     rintro e w4 ⟨y,u,rfl,k4,hs4,hv4⟩
     obtain⟨yk,yn,yt,A1,l1,c1,yo,A2,l2,c2,rfl⟩:=hv4.here.parts
     have e1:=kq.size
     have e2:=k4.size
     have kA:=((Keep.refl (fun _=>True) w4).alloc (.cells #[.int .i64 yk,.int .u64 yn,.string yt,.slice A1 l1 c1,.int .i64 yo,.slice A2 l2 c2] 78)).alloc (.cells #[.int .i64 k,.int .u64 0,.string ⟨tj'.toArray⟩,.slice none 0 0,.int .i64 0,.slice none 0 0,.int .i64 yk,.int .u64 yn,.string yt,.slice A1 l1 c1,.int .i64 yo,.slice A2 l2 c2] 78)
     have hrow4:=(hrow.keep k4 (fun _ _=>trivial)).keep kA (fun _ _=>trivial)
     have e3:=kA.size
     have hfar:∀g,Value.ownBlock (.slice A (2*j) cc)=some g→g<wr.heap.size:=fun g hg=>hrow.ownLt hg
     have hfar2:=hrow.far
     obtain⟨g5,c5,w5,hap,hrow5,k5⟩:=hrow4.step (vs:=[.mk k 0 tj' [] 0 [],u]) (w4.heap.size+1) 0 2 [.int .i64 k,.int .u64 0,.string ⟨tj'.toArray⟩,.slice none 0 0,.int .i64 0,.slice none 0 0,.int .i64 yk,.int .u64 yn,.string yt,.slice A1 l1 c1,.int .i64 yo,.slice A2 l2 c2]
      (fun q z hq=>by
       have hb:=blk_new (w4.alloc (.cells #[.int .i64 yk,.int .u64 yn,.string yt,.slice A1 l1 c1,.int .i64 yo,.slice A2 l2 c2] 78)) (.cells #[.int .i64 k,.int .u64 0,.string ⟨tj'.toArray⟩,.slice none 0 0,.int .i64 0,.slice none 0 0,.int .i64 yk,.int .u64 yn,.string yt,.slice A1 l1 c1,.int .i64 yo,.slice A2 l2 c2] 78)
       simp only [World.size_alloc]at hb
       rw [blk_cell hb,Nat.zero_add]
       simpa using hq)
      ((hv4.imp fun w9 h=>(mem_plain w9 k 0 tj' (by omega)).append h.mem).step kA.size (fun i hi _=>kA.block i hi trivial) (fun z hz hb=>⟨by omega,fun e=>by have:=hfar _ e.symm;omega⟩)) (by simp) (by simp;omega) (by omega)
     rw [hus]at hap hrow5
     simp only [List.length_cons,List.length_nil]at hap hrow5
     have HAP:=Lib.hid hap
     have HS4:=Lib.hid hs4
     clear hap hs4 hv4 hrow hrow4 hlk
     go_wp2_with (at_builtin;refine wpList_append_eq rfl _ _ 43 rfl _ _ _ _ rfl rfl HAP.out ?_)
     go_roundg kk
     case measure=>omega
     case rel=>
      refine⟨j+1,us++[.mk k 0 tj' [] 0 [],u],by omega,congrArg _ (by omega),by simp [hus];omega,((kq.trans k4).trans kA).then k5 (fun i hi _=>hfar2 i hi),?_,hrow5⟩
      rw [flat2_take_succ qs j hjq]
      refine SIM.out.app ?_
      have hleaf:=Sims.leaf (k:=k0) (k':=k) (n:=0) (t:=tj') (o:=o) (o':=0) (by have:=HKK.out;have:=HK0.out;omega) (by have:=HK0.out;omega) (fun _=>rfl) HS4.out
      rw [←QO.out]at hleaf
      exact hleaf
  ·have hem:=mem_left he
   have hsh:=left_shrinks es seen e he
   have hen:=entry_map w1 w.heap.size m clock seen es clock e hit1 (k1.blk hbr (show m≠w.heap.size by omega)) hem.1 HM.out.born.1
   obtain⟨t,ht⟩:=HM.out.text e hem.1
   rw [ht]at hnx hen
   have HE:=Lib.hid he
   have hrow1:=hrow.keep k1 (fun b hb=>by show b≠w.heap.size;omega)
   have hs1:=k1.size
   have hs0:=kr.size
   have hrow2:=hrow1.keep ((Keep.refl (fun _=>True) w1).alloc (.cells #[.string ⟨t.toArray⟩] 9)) (fun _ _=>trivial)
   obtain⟨g5,c5,w5,hap,hrow5,k5⟩:=hrow2.step t w1.heap.size 1 (blk_new _ _) (by omega) (by simp;omega)
   have hfar:=hrow.far
   have HAP:=Lib.hid hap
   have HT:=Lib.hid ht
   have hit5:=k5.blk (blk_alloc hit1 (.cells #[.string ⟨t.toArray⟩] 9)) (hfar _ (by omega))
   clear hap ht hrow hrow1 hrow2 hrg he
   go_wp2_with (at_builtin;refine wpList_append_eq rfl _ _ 52 rfl _ _ _ _ rfl rfl HAP.out ?_)
   go_roundg (leftOf es (seen.push e.born)).size
   case measure=>have:=LF.out;omega
   case rel=>
    refine⟨((kr.then k1 (fun i hi _=>by show i≠w.heap.size;omega)).alloc _).then k5 (fun i hi _=>hfar i (by omega)),seen.push e.born,clock,picked++[e],ts++[t],hit5,Nat.le_refl _,Nat.le_refl _,?_,?_,hrow5⟩
    ·rw [List.append_assoc]
     exact PK.out.trans ((left_perm es seen e HM.out.born.1 HE.out).append_left picked)
    ·rw [List.map_append,List.map_append,PT.out]
     simp [HT.out]
end Go.Proofs.YtfoegolfadhmjaaGreatDoor
