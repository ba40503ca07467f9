/- impl.marshaled at keys, impl.pairs. -/
import Derived.Test.YtfoegolfadhmjaaGreatDoorZ15
set_option linter.all false
set_option maxRecDepth 100000
set_option maxHeartbeats 8000000
namespace Go.Proofs.YtfoegolfadhmjaaGreatDoor
open Go.RowKit Go.WideShapes Go.Sort
theorem marsh_key{w:World}{v:V}{x:Value}(hg:GLeaf w v x)(hok:LeafOk v)(hk:KeyK v.kind)(w1:World)(VC:Vld w1)(g:Nat)(h:BufW w1 g 0):
 Calls Tryz.prog 244 #[.pointer (some ⟨g,0,none⟩),x] w1 fun e w'=>e=.returned .nilIface∧BufW w' g 200000∧Keep (fun b=>b<g) w1 w':=by
 unfold KeyK at hk
 cases hg with
 | null o=>simp [V.kind]at hk
 | bool n o hn=>exact marsh_bool w1 g h _
 | u8 n o hn=>exact marsh_u8 w1 g h n hn
 | u16 n o hn=>exact marsh_u16 w1 g h n ⟨by omega,by omega⟩
 | u32 n o hn=>exact marsh_u32 w1 g h n hn
 | u64 n o hn=>exact marsh_u64 w1 g h n hn
 | i8 n o hn=>exact marsh_i8 w1 g h _
 | i16 n o hn=>exact marsh_i16 w1 g h _
 | i32 n o hn=>exact marsh_i32 w1 g h _ ⟨by have:=hn.2.1;simpa using this,by have:=hn.2.2;simpa using this⟩
 | i64 n o hn=>exact marsh_i64 w1 g h _ ⟨by have:=hn.2.1;simpa using this,by have:=hn.2.2;simpa using this⟩
 | f32 n o hn=>simp [V.kind]at hk
 | f64 n o hn=>simp [V.kind]at hk
 | time n o hn=>exact marsh_time w1 g h _ (by have:=hn.2.1;simpa using this) (by have:=hn.2.2;simp at this;omega)
 | uuid t o ht=>exact marsh_uuid w1 g h t ht
 | bin t o s hs=>simp [V.kind]at hk
 | str t o ht=>cases hok with | str _ _ h1 h2=>exact marsh_str w1 g h VC t h2 h1
 | sym t o ht=>cases hok with | sym _ _ h1 h2=>exact marsh_str w1 g h VC t h2 h1
theorem marshaled_is{w0:World}{v:V}{x:Value}(hg:GLeaf w0 v x)(hok:LeafOk v)(hk:KeyK v.kind)(w:World)(VC:Vld w):
 Calls Tryz.prog 214 #[x] w fun e w'=>∃s l,e=.returned (.tuple #[s,.bool true])∧New w w'∧SlB w' s l:=by
 have kA:=(Keep.refl (fun _=>True) w).alloc (.cells #[.slice none 0 0,.int .i64 0] 122)
 have hB:BufW (w.alloc (.cells #[.slice none 0 0,.int .i64 0] 122)) w.heap.size 0:=⟨.slice none 0 0,[],blk_new w _,RowB.nil,Nat.le_refl _⟩
 have hm:=Lib.hid (marsh_key hg hok hk _ (VC.new kA) _ hB)
 clear hg hok hk hB
 go_enter Tryz.func214,Tryz.ntmps214
 go_wp2_with fail
 refine hm.out.mono ?_
 rintro e w1 ⟨rfl,h1,k1⟩
 go_wp2_with fail
 refine(bytes_is w1 _ 200000 h1 (by omega)).mono ?_
 rintro e w2 ⟨v2,l2,rfl,k2,hs2,hl2⟩
 go_wp2_with fail
 refine(copied_is w2 v2 l2 hs2 (by omega)).mono ?_
 rintro e w3 ⟨v3,rfl,k3,hd3,⟨A,c,rfl⟩,-⟩
 go_wp2
 go_ret2
 exact⟨_,l2,rfl,((kA.then k1 (fun i hi _=>by omega)).trans k2).trans k3,hd3.here⟩
theorem conv_slb{w:World}{v:Value}{l:List UInt8}(h:SlB w v l):(convert 27 9 v).run Tryz.prog w=.ok (.string ⟨l.toArray⟩) w:=by
 obtain⟨A,c,rfl,h1,h2,h3⟩:=h
 cases A with
 | none=>
   have:l=[]:=by
    rcases l with _ | ⟨x,l⟩
    ·rfl
    ·obtain⟨d,i,e,_⟩:=h3 (by simp)
     cases e
   subst this
   rfl
 | some a=>
   rcases l with _ | ⟨x,l⟩
   ·rfl
   ·obtain⟨d,i,e,hb⟩:=h3 (by simp)
    injection e with e
    subst e
    exact conv_cells w d i c _ fun j hj=>hb.cell j hj
theorem info417:(Tryz.prog.info? 417).map (fun i=>(i.zero,i.size,i.bytes))=some (some (.agg #[.string .empty,.int .i64 0,.int .u64 0,.string .empty,.slice none 0 0,.int .i64 0,.slice none 0 0,.int .i64 0,.int .u64 0,.string .empty,.slice none 0 0,.int .i64 0,.slice none 0 0]),13,192):=by kernel_rfl
def PRel(es:Array MapEntry)(qs:List (V×V))(e:MapEntry)(p:List UInt8×V×V):Prop:=∃(j:Nat) (hj:j<qs.length) (he:j<es.size),es[j]=e∧Sims [qs[j].1] [p.2.1]∧Sims [qs[j].2] [p.2.2]
theorem prel_perm{es:Array MapEntry}{qs:List (V×V)}(hlen:es.size=qs.length)(hb:(es.toList.map (·.born)).Nodup){picked:List MapEntry}{ps:List (List UInt8×V×V)}(hl:picked.length=ps.length)(hr:∀z∈picked.zip ps,PRel es qs z.1 z.2)(hp:es.toList.Perm picked):
 ∃qs',qs.Perm qs'∧qs'.length=ps.length∧∀j (h1:j<qs'.length) (h2:j<ps.length),Sims [qs'[j].1] [ps[j].2.1]∧Sims [qs'[j].2] [ps[j].2.2]:=by
 have hm:(es.toList.zip qs).map (fun z=>z.1)=es.toList:=List.map_fst_zip (by simp;omega)
 obtain⟨zs,hz1,hz2⟩:=lift_perm (fun z:MapEntry×(V×V)=>z.1) picked (es.toList.zip qs) (by rw [hm];exact hp.symm)
 have hq:qs.Perm (zs.map (·.2)):=by
  have:=hz1.map (·.2)
  rwa [show(es.toList.zip qs).map (·.2)=qs from List.map_snd_zip (by simp;omega)]at this
 have hzl:zs.length=picked.length:=by rw [←hz2,List.length_map]
 refine⟨zs.map (·.2),hq,by rw [List.length_map];omega,fun j h1 h2=>?_⟩
 have hjz:j<zs.length:=by simpa using h1
 have hjp:j<picked.length:=by omega
 have hmem:=hz1.mem_iff.2 (List.getElem_mem hjz)
 obtain⟨i,hi,hie⟩:=List.mem_iff_getElem.1 hmem
 have hi1:i<es.size:=by simp at hi;omega
 have hi2:i<qs.length:=by simp at hi;omega
 have e1:zs[j]=(es[i],qs[i]):=by rw [←hie];simp
 have e2:picked[j]=es[i]:=by
  have:picked[j]=(zs.map (fun z=>z.1))[j]'(by simpa using hjz):=by simp [hz2]
  rw [this]
  simp [e1]
 obtain⟨j',a1,a2,a3,a4,a5⟩:=hr (picked[j],ps[j]) (by
  rw [List.mem_iff_getElem]
  exact⟨j,by simp;omega,by simp⟩)
 have e3:es[j']=es[i]:=by rw [a3];exact e2
 have e4:j'=i:=by
  have h3:=hb
  rw [List.nodup_iff_pairwise_ne,List.pairwise_iff_getElem]at h3
  rcases Nat.lt_trichotomy j' i with h | h | h
  ·have h4:=h3 j' i (by simpa using a2) (by simpa using hi1) h
   exact absurd (by simp [e3]) h4
  ·exact h
  ·have h4:=h3 i j' (by simpa using hi1) (by simpa using a2) h
   exact absurd (by simp [e3]) h4
 subst e4
 simp only [List.getElem_map,e1]
 exact⟨a4,a5⟩
theorem Sims.pairs:∀{qs:List (V×V)} {ps:List (List UInt8×V×V)},qs.length=ps.length→(∀j (h1:j<qs.length) (h2:j<ps.length),Sims [qs[j].1] [ps[j].2.1]∧Sims [qs[j].2] [ps[j].2.2])→Sims (flat2 qs) (flat2 (ps.map (·.2)))
 | [],[],_,_=>.nil
 | [],_::_,h,_=>absurd h (by simp)
 | _::_,[],h,_=>absurd h (by simp)
 | q::qs,p::ps,h,hr=>by
   have h0:=hr 0 (by simp) (by simp)
   have h1:=Sims.pairs (qs:=qs) (ps:=ps) (by simpa using h) fun j a b=>hr (j+1) (by simpa using a) (by simpa using b)
   exact(h0.1.app h0.2).app h1
theorem PR.inv1{w:World}{t:List UInt8}{k v:V}{e:PairE}(h:PR w [(t,k,v)] (encP e)):e.1.1=t∧Mem w [k,v] e.1.2:=by
 obtain⟨x,hx⟩:∃x,x=encP e:=⟨_,rfl⟩
 rw [←hx]at h
 cases h with
 | cons hk hv hs=>
   cases hs
   simp only [List.append_nil,encP,List.cons.injEq,Value.string.injEq]at hx
   obtain⟨h1,h2⟩:=hx
   refine⟨?_,by rw [←h2];exact hk.append hv⟩
   injection h1 with h1
   simpa using h1.symm
theorem Mem.two{w:World}{k v:V}{cs:List Value}(h:Mem w [k,v] cs):∃yk yn yt A1 l1 c1 yo A2 l2 c2 zk zn zt A3 l3 c3 zo A4 l4 c4,cs=[.int .i64 yk,.int .u64 yn,.string yt,.slice A1 l1 c1,.int .i64 yo,.slice A2 l2 c2,.int .i64 zk,.int .u64 zn,.string zt,.slice A3 l3 c3,.int .i64 zo,.slice A4 l4 c4]:=by
 cases h with
 | cons hn hk hkm hd hdm hs=>
   cases hs with
   | cons hn' hk' hkm' hd' hdm' hs'=>
     cases hs'
     obtain⟨A1,c1,rfl,_⟩:=hk
     obtain⟨A2,c2,rfl,_⟩:=hd
     obtain⟨A3,c3,rfl,_⟩:=hk'
     obtain⟨A4,c4,rfl,_⟩:=hd'
     exact⟨_,_,_,A1,_,c1,_,A2,_,c2,_,_,_,A3,_,c3,_,A4,_,c4,rfl⟩
theorem rel_perm{qs:List (V×V)}{ps ps':List (List UInt8×V×V)}(hl:qs.length=ps.length)(hr:∀j (h1:j<qs.length) (h2:j<ps.length),Sims [qs[j].1] [ps[j].2.1]∧Sims [qs[j].2] [ps[j].2.2])(hp:ps.Perm ps'):
 ∃qs',qs.Perm qs'∧qs'.length=ps'.length∧∀j (h1:j<qs'.length) (h2:j<ps'.length),Sims [qs'[j].1] [ps'[j].2.1]∧Sims [qs'[j].2] [ps'[j].2.2]:=by
 have hm:(qs.zip ps).map (fun z=>z.2)=ps:=List.map_snd_zip (by omega)
 obtain⟨zs,hz1,hz2⟩:=lift_perm (fun z:(V×V)×(List UInt8×V×V)=>z.2) ps' (qs.zip ps) (by rw [hm];exact hp.symm)
 have hq:qs.Perm (zs.map (·.1)):=by
  have:=hz1.map (·.1)
  rwa [show(qs.zip ps).map (·.1)=qs from List.map_fst_zip (by omega)]at this
 have hzl:zs.length=ps'.length:=by rw [←hz2,List.length_map]
 refine⟨zs.map (·.1),hq,by rw [List.length_map];omega,fun j h1 h2=>?_⟩
 have hjz:j<zs.length:=by simpa using h1
 have hmem:=hz1.mem_iff.2 (List.getElem_mem hjz)
 obtain⟨i,hi,hie⟩:=List.mem_iff_getElem.1 hmem
 have e1:zs[j]=(qs[i]'(by simp at hi;omega),ps[i]'(by simp at hi;omega)):=by rw [←hie];simp
 have e2:ps'[j]=ps[i]'(by simp at hi;omega):=by
  have:ps'[j]=(zs.map (fun z=>z.2))[j]'(by simpa using hjz):=by simp [hz2]
  rw [this]
  simp [e1]
 rw [e2]
 simp only [List.getElem_map,e1]
 exact hr i _ _
theorem memCells:CellsOf 6 Mem where
 nil _:=.nil
 len h:=h.len
 one h:=h.one
 app h k:=h.append k
theorem pairs_is(w:World)(VC:Vld w)(m:Nat)(es:Array MapEntry)(clock:Nat)(qs:List (V×V))(hm:w.heap[m]? =some (.map es clock))(hb:Born es clock)(hlen:es.size=qs.length)(hmax:qs.length≤500)(hok:MapOk qs)
 (hv:∀j (hj:j<qs.length) (he:j<es.size),GLeaf w qs[j].1 es[j].key∧LeafOk qs[j].1∧ValOK w qs[j].2 es[j].val):PairsOK w m qs:=by
 intro w0 k0
 have hm0:=k0.blk hm trivial
 have hrg:=fun w' (h:w'.heap[m]? =some (.map es clock))=>range_map w' 277 20 20 m es clock Tryz.underlying277 h
 have hrg0:=hrg (w0.alloc (.cells #[.slice none 0 0] 414)) (blk_alloc hm0 _)
 have HM:=Lib.hid hm0
 have HB:=Lib.hid hb
 have HL:=Lib.hid hlen
 have HMX:=Lib.hid hmax
 have HV:=Lib.hid hv
 have HOK:=Lib.hid hok
 have K0:=Lib.hid k0
 have VC0:=Lib.hid (VC.new k0)
 have hlt:=lt_blk hm0
 clear hm hb hlen hmax hok hv hrg k0 hm0
 go_enter Tryz.func152,Tryz.ntmps152
 go_wp2_with fail
 go_loopg [] es.size (fun kk wr=>New w0 wr∧∃(seen:Array Nat) (c:Nat) (picked:List MapEntry) (ps:List (List UInt8×V×V)) (sk:Value),wr.heap[w0.heap.size]? =some (.cells #[sk] 414 (0,0))∧wr.heap[w0.heap.size+1]? =some (.mapIter (some m) clock seen c)∧clock≤c∧(leftOf es seen).size≤kk∧es.toList.Perm (picked++(leftOf es seen).toList)∧picked.length=ps.length∧(∀z∈picked.zip ps,PRel es qs z.1 z.2)∧RowG 417 13 PR wr (w0.heap.size+2) sk ps)
 case atStart=>
  refine⟨((Keep.refl _ w0).alloc _).alloc _,#[],clock,[],[],.slice none 0 0,blk_alloc (blk_new w0 _) _,by have:=blk_new (w0.alloc (.cells #[.slice none 0 0] 414)) (.mapIter (some m) clock #[] clock);simpa using this,Nat.le_refl _,?_,?_,rfl,by intro z hz;simp at hz,RowG.nil pairCells⟩
  ·unfold leftOf
   exact Array.size_filter_le ..
  ·have:leftOf es #[]=es:=by
    unfold leftOf
    exact Array.filter_eq_self.2 (by simp)
   rw [this]
   exact List.Perm.refl _
 case round=>
  obtain⟨kr,seen,c,picked,ps,sk,hL,hit,hcl,hleft,hpk,hpl,hpr,hrow⟩:=hrel
  have hbr:=kr.blk HM.out trivial
  have LF:=Lib.hid hleft
  have PK:=Lib.hid hpk
  have PR':=Lib.hid hpr
  have hesl:ps.length≤500:=by
   have h2:=hpk.length_eq
   simp at h2
   have:=HL.out
   have:=HMX.out
   omega
  have hlenL:=Lib.hid hpl
  clear hleft hpk hpr hpl
  have cL:=(blk_cell hL 0).trans rfl
  have hits:=lt_blk hit
  rcases next_map wr (w0.heap.size+1) m clock c seen es clock hit hbr HB.out.2 hcl with⟨h0,hnx⟩ | ⟨e,he,w1,hnx,hit1,k1⟩
  ·have hperm:es.toList.Perm picked:=by
    have h1:=PK.out
    rwa [List.eq_nil_of_length_eq_zero (l:=(leftOf es seen).toList) (by simpa using h0),List.append_nil]at h1
   obtain⟨qs',hq1,hq2,hq3⟩:=prel_perm HL.out HB.out.1 hlenL.out PR'.out hperm
   have hsort:=Lib.hid (pairs_sorted wr (w0.heap.size+2) w0.heap.size sk ps hrow hL (by omega) (by omega))
   obtain⟨A0,c0,hsk⟩:=hrow.shape
   subst hsk
   have hfar:=Lib.hid hrow.far
   have LL:=Lib.hid hL
   have Q1:=Lib.hid hq1
   have Q2:=Lib.hid hq2
   have Q3:=Lib.hid hq3
   clear hperm hq1 hq2 hq3 h0 hrg0 hit hrow hL
   go_wp2_with fail
   refine hsort.out.mono ?_
   rintro e w2 ⟨rfl,k2,ps',hp',hrow2⟩
   have hL2:=k2.blk LL.out (hfar.out _ (by omega))
   have cL2:=(blk_cell hL2 0).trans rfl
   obtain⟨qs3,hq4,hq5,hq6⟩:=rel_perm Q2.out Q3.out hp'
   have hfin:=Sims.pairs hq5 hq6
   have hqp:=Q1.out.trans hq4
   have hpl':=hp'.length_eq
   obtain⟨cells,hown,hdep⟩:=hrow2
   obtain⟨es',he1,rfl⟩:=hdep.here.chunks
   have hsl:=slG_own hown
   have hold:∀g,Value.ownBlock (.slice A0 ps.length c0)=some g→g<w2.heap.size:=fun g hg=>RowG.ownLt ⟨_,hown,hdep⟩ hg
   obtain⟨n,hn⟩:∃n,n=ps.length:=⟨_,rfl⟩
   rw [←hn]at hsl hesl cL2 hpl' ⊢
   have HSL:=Lib.hid hsl
   have HDEP:=Lib.hid hdep
   have HQP:=Lib.hid hqp
   have HFIN:=Lib.hid hfin
   have HE1:=Lib.hid he1
   have N:=Lib.hid hpl'
   have K2:=Lib.hid (kr.then k2 (fun i hi _=>hfar.out i (by omega)))
   have HSZ:=Lib.hid k2.size
   have HOLD:=Lib.hid hold
   clear hq4 hq5 hq6 hqp hfin hown hdep he1 hpl' hsl hp' hold hn hL2 k2
   go_wp2_with fail
   go_loopg [13,62] n (fun kk s13 s62 wq=>∃j:Nat,j+kk=n∧s62=.int .i64 (j:Int)∧New w2 wq∧RowG 78 6 Mem wq w0.heap.size s13 (flat2 ((ps'.take j).map (·.2)))∧∀g,s13.ownBlock=some g→w2.heap.size≤g)
   case atStart=>exact⟨0,by omega,rfl,Keep.refl _ _,RowG.nil memCells,fun g hg=>by cases hg⟩
   case round=>
    obtain⟨j,hj,rfl,kq,hrowr,hownq⟩:=hrel
    obtain⟨A9,c9,hsk9⟩:=hrowr.shape
    have hfl:(flat2 ((ps'.take j).map (·.2))).length=2*j:=by
     rw [flat2_len,List.length_map,List.length_take]
     have:=N.out
     omega
    rw [hfl]at hsk9
    subst hsk9
    have HFL:=Lib.hid hfl
    clear hfl
    rcases gk with _ | kk
    ·obtain rfl:n=j:=by omega
     have HO:=Lib.hid hrowr
     clear hrowr
     go_wp2
     go_ret2
     refine⟨_,flat2 (ps'.map (·.2)),rfl,K2.out.trans kq,⟨qs3,HQP.out,HFIN.out⟩,?_⟩
     have:=RowV.out (w:=wr) (base:=w0.heap.size) (us:=flat2 ((ps'.take n).map (fun x:List UInt8×V×V=>x.2))) HO.out
     rwa [List.take_of_length_le (by have:=N.out;omega)]at this
    ·have hjn:j<n:=by omega
     have tj:decide (j<n)=true:=by simpa using hjn
     have hjp:j<ps'.length:=by rw [←N.out];exact hjn
     have hje:j<es'.length:=by rw [HE1.out];exact hjp
     have hsl2:=HSL.out.keep kq
     rw [show ps'.length=n from N.out.symm]at hsl2
     obtain⟨d2,i2,rfl,-,-,-,hat⟩:=hsl2.at (by omega)
     obtain⟨e,hee⟩:∃e,e=es'[j]:=⟨_,rfl⟩
     have hzip:(ps'[j],e)∈ps'.zip es':=by
      rw [List.mem_iff_getElem]
      exact⟨j,by simp;omega,by simp [hee]⟩
     have hdj:Dep (fun b=>w0.heap.size+2≤b∧some b≠(Value.slice (some ⟨d2,i2,none⟩) n c0).ownBlock) w2 (fun w=>e.1.1=ps'[j].1∧Mem w [ps'[j].2.1,ps'[j].2.2] e.1.2):=fun w' hw'=>(PR.each (HDEP.out w' hw') HE1.out _ hzip).inv1
     obtain⟨yk,yn,yt,A1,l1,c1,yo,A2,l2,c2,zk,zn,zt,A3,l3,c3,zo,A4,l4,c4,hcs⟩:=hdj.here.2.two
     have hcell:∀q u,(encP e)[q]? =some u→q<13→wr.cell? ⟨d2,i2+j*13+q,none⟩=some u:=fun q u hu hq=>by
      rw [Nat.add_assoc]
      refine hat (j*13+q) u (by omega) ?_
      rw [flat_at es' _ (by omega),show(j*13+q)/13=j by omega,show(j*13+q) % 13=q by omega]
      rw [show es'[j]! =e by rw [hee];simp [hje]]
      obtain⟨h,rfl⟩:=List.getElem?_eq_some_iff.1 hu
      simp [h]
     unfold encP at hcell
     rw [hcs]at hcell hdj
     rw [hdj.here.1]at hcell
     have g0:=hcell 0 _ rfl (by omega)
     have g1:=hcell 1 _ rfl (by omega)
     have g2:=hcell 2 _ rfl (by omega)
     have g3:=hcell 3 _ rfl (by omega)
     have g4:=hcell 4 _ rfl (by omega)
     have g5:=hcell 5 _ rfl (by omega)
     have g6:=hcell 6 _ rfl (by omega)
     have g7:=hcell 7 _ rfl (by omega)
     have g8:=hcell 8 _ rfl (by omega)
     have g9:=hcell 9 _ rfl (by omega)
     have g10:=hcell 10 _ rfl (by omega)
     have g11:=hcell 11 _ rfl (by omega)
     have g12:=hcell 12 _ rfl (by omega)
     rw [Nat.add_zero]at g0
     obtain⟨tx,htx⟩:∃tx,tx=ps'[j].1:=⟨_,rfl⟩
     rw [←htx]at g0
     have kA:=((Keep.refl (fun _=>True) wr).alloc (.cells #[.string ⟨tx.toArray⟩,.int .i64 yk,.int .u64 yn,.string yt,.slice A1 l1 c1,.int .i64 yo,.slice A2 l2 c2,.int .i64 zk,.int .u64 zn,.string zt,.slice A3 l3 c3,.int .i64 zo,.slice A4 l4 c4] 417)).alloc (.cells #[.int .i64 yk,.int .u64 yn,.string yt,.slice A1 l1 c1,.int .i64 yo,.slice A2 l2 c2,.int .i64 zk,.int .u64 zn,.string zt,.slice A3 l3 c3,.int .i64 zo,.slice A4 l4 c4] 78)
     have hsz:=kq.size
     have hsz2:=HSZ.out
     have hst:=(hrowr.keep kA (fun _ _=>trivial)).step memCells (vs:=[ps'[j].2.1,ps'[j].2.2]) Tryz.underlying43 info78 rfl (by omega) (by omega) (wr.heap.size+1) 0 2 [.int .i64 yk,.int .u64 yn,.string yt,.slice A1 l1 c1,.int .i64 yo,.slice A2 l2 c2,.int .i64 zk,.int .u64 zn,.string zt,.slice A3 l3 c3,.int .i64 zo,.slice A4 l4 c4]
      (fun q z hq=>by
       have hb:=blk_new (wr.alloc (.cells #[.string ⟨tx.toArray⟩,.int .i64 yk,.int .u64 yn,.string yt,.slice A1 l1 c1,.int .i64 yo,.slice A2 l2 c2,.int .i64 zk,.int .u64 zn,.string zt,.slice A3 l3 c3,.int .i64 zo,.slice A4 l4 c4] 417)) (.cells #[.int .i64 yk,.int .u64 yn,.string yt,.slice A1 l1 c1,.int .i64 yo,.slice A2 l2 c2,.int .i64 zk,.int .u64 zn,.string zt,.slice A3 l3 c3,.int .i64 zo,.slice A4 l4 c4] 78)
       simp only [World.size_alloc]at hb
       rw [blk_cell hb,Nat.zero_add]
       simpa using hq)
      ((hdj.imp fun _ h=>h.2).step (Nat.le_trans hsz kA.size) (fun i hi _=>(kA.block i (by omega) trivial).trans (kq.block i hi trivial)) (fun b hb hok=>⟨by omega,fun e=>by have:=hownq b e.symm;omega⟩)) (by simp) (by rw [HFL.out];simp;omega) (by simp;omega)
     obtain⟨g9,cap9,w9,hap,hrow9,k9,hg9⟩:=hst
     rw [HFL.out]at hap hrow9
     have HAP:=Lib.hid hap
     have HG9:=Lib.hid hg9
     have HTX:=Lib.hid htx
     have hfar9:=hrowr.far
     have HF9:=Lib.hid hfar9
     clear hap hcell hat hdj hcs hzip hee htx hrowr hg9 hfar9 hsl2
     go_wp2_with (at_builtin;refine wpList_append_eq rfl _ _ 43 rfl _ _ _ _ rfl rfl HAP.out ?_)
     go_roundg kk
     case measure=>omega
     case rel=>
      refine⟨j+1,by omega,congrArg _ (by omega),((kq.trans kA).then k9 (fun i hi _=>fun e=>by have:=hownq i e.symm;omega)),?_,fun g hg=>?_⟩
      ·rw [←List.take_append_getElem hjp,List.map_append,flat2_append]
       exact hrow9
      ·have e1:g9=g:=by simpa [Value.ownBlock]using hg
       rcases HG9.out with h | h
       ·rw [←e1];exact hownq g9 h
       ·simp at h;omega
  ·have hem:=mem_left he
   have hsh:=left_shrinks es seen e he
   have hen:=entry_map w1 (w0.heap.size+1) m clock seen es clock e hit1 (k1.blk hbr (show m≠w0.heap.size+1 by omega)) hem.1 HB.out.1
   obtain⟨j,hjl,hje⟩:=List.mem_iff_getElem.1 hem.1
   have hjs:j<es.size:=by simpa using hjl
   have hjq:j<qs.length:=by rw [←HL.out];exact hjs
   have hje':es[j]=e:=by simpa using hje
   obtain⟨hgl,hlo,hvo⟩:=HV.out j hjq hjs
   rw [hje']at hgl hvo
   have hkk:=HOK.out.kinds qs[j] (List.getElem_mem hjq)
   have HE:=Lib.hid he
   have hk01:=kr.then k1 (fun i hi _=>by show i≠w0.heap.size+1;omega)
   have K01:=Lib.hid hk01
   have kall1:=K0.out.trans hk01
   have hcall1:=Lib.hid (valOK_leaf hgl hlo w1 kall1)
   have hs1:=k1.size
   have hs0:=kr.size
   have hL1:=k1.blk hL (show w0.heap.size≠w0.heap.size+1 by omega)
   have hrow1:=hrow.keep k1 (fun b hb=>by show b≠w0.heap.size+1;omega)
   have HREL:=Lib.hid hje'
   obtain⟨ke,hke⟩:∃ke,ke=e.key:=⟨_,rfl⟩
   obtain⟨ve,hve⟩:∃ve,ve=e.val:=⟨_,rfl⟩
   rw [←hke]at hnx hen hgl hcall1
   rw [←hve]at hnx hen hvo
   have HGL:=Lib.hid hgl
   have HLO:=Lib.hid hlo
   have HVO:=Lib.hid hvo
   have HKK:=Lib.hid hkk
   have KALL1:=Lib.hid kall1
   obtain⟨A0,c0,hsk⟩:=hrow.shape
   subst hsk
   have HF:=Lib.hid hrow.far
   have hown0:∀g,Value.ownBlock (.slice A0 ps.length c0)=some g→g<wr.heap.size:=fun g hg=>hrow.ownLt hg
   have HOWN:=Lib.hid hown0
   clear hje hje' hgl hlo hvo hkk he hk01 kall1 hke hve hrow hrg0 hown0 hem
   go_wp2_with fail
   refine hcall1.out.mono ?_
   rintro e' w2 ⟨y,uk,rfl,k2,hs2,hv2⟩
   obtain⟨yk,yn,yt,A1,l1,c1,yo,A2,l2,c2,rfl⟩:=hv2.here.parts
   have k2a:=k2.trans ((Keep.refl (fun _=>True) w2).alloc (.cells #[.int .i64 yk,.int .u64 yn,.string yt,.slice A1 l1 c1,.int .i64 yo,.slice A2 l2 c2] 78))
   have hcall2:=Lib.hid (HVO.out _ (KALL1.out.trans k2a))
   have HS2:=Lib.hid hs2
   have HV2:=Lib.hid hv2
   have K2A:=Lib.hid k2a
   have hsz2:=k2.size
   have hb7:=blk_new w2 (.cells #[.int .i64 yk,.int .u64 yn,.string yt,.slice A1 l1 c1,.int .i64 yo,.slice A2 l2 c2] 78)
   clear hs2 hv2 hcall1 k2a
   go_wp2_with fail
   refine hcall2.out.mono ?_
   rintro e' w3 ⟨z,uv,rfl,k3,hs3,hv3⟩
   obtain⟨zk,zn,zt,A3,l3,c3,zo,A4,l4,c4,rfl⟩:=hv3.here.parts
   have k3a:=k3.trans ((Keep.refl (fun _=>True) w3).alloc (.cells #[.int .i64 zk,.int .u64 zn,.string zt,.slice A3 l3 c3,.int .i64 zo,.slice A4 l4 c4] 78))
   have HS3:=Lib.hid hs3
   have HV3:=Lib.hid hv3
   have K3A:=Lib.hid k3a
   have hsz3:=k3.size
   simp only [World.size_alloc]at hsz3
   have hb9:=blk_new w3 (.cells #[.int .i64 zk,.int .u64 zn,.string zt,.slice A3 l3 c3,.int .i64 zo,.slice A4 l4 c4] 78)
   have hcall3:=Lib.hid (marshaled_is HGL.out HLO.out HKK.out _ (VC0.out.new ((K01.out.trans K2A.out).trans k3a)))
   clear hs3 hv3 hcall2 k3a
   go_wp2_with fail
   refine hcall3.out.mono ?_
   rintro e' w4 ⟨s4,tx,rfl,k4,hs4⟩
   have hsz4:=k4.size
   simp only [World.size_alloc]at hsz4
   have hb74:=k4.blk (K3A.out.blk hb7 trivial) trivial
   have hb94:=k4.blk hb9 trivial
   have kk4:=(K2A.out.trans K3A.out).trans k4
   have hL4:=kk4.blk hL1 trivial
   have cL4:=(blk_cell hL4 0).trans rfl
   have hconv:=conv_slb hs4
   have p0:=(blk_cell hb74 0).trans rfl
   have r0:=(blk_cell hb94 0).trans rfl
   have p1:=(blk_cell hb74 1).trans rfl
   have r1:=(blk_cell hb94 1).trans rfl
   have p2:=(blk_cell hb74 2).trans rfl
   have r2:=(blk_cell hb94 2).trans rfl
   have p3:=(blk_cell hb74 3).trans rfl
   have r3:=(blk_cell hb94 3).trans rfl
   have p4:=(blk_cell hb74 4).trans rfl
   have r4:=(blk_cell hb94 4).trans rfl
   have p5:=(blk_cell hb74 5).trans rfl
   have r5:=(blk_cell hb94 5).trans rfl
   have kN:=(Keep.refl (fun _=>True) w4).alloc (.cells #[.string ⟨tx.toArray⟩,.int .i64 yk,.int .u64 yn,.string yt,.slice A1 l1 c1,.int .i64 yo,.slice A2 l2 c2,.int .i64 zk,.int .u64 zn,.string zt,.slice A3 l3 c3,.int .i64 zo,.slice A4 l4 c4] 417)
   have hstep:=((hrow1.keep kk4 (fun _ _=>trivial)).keep kN (fun _ _=>trivial)).step pairCells (vs:=[(tx,uk,uv)]) Tryz.underlying414 info417 rfl (by omega) (by omega) w4.heap.size 0 1 [.string ⟨tx.toArray⟩,.int .i64 yk,.int .u64 yn,.string yt,.slice A1 l1 c1,.int .i64 yo,.slice A2 l2 c2,.int .i64 zk,.int .u64 zn,.string zt,.slice A3 l3 c3,.int .i64 zo,.slice A4 l4 c4]
    (fun q z hq=>by
     rw [blk_cell (blk_new w4 (.cells #[.string ⟨tx.toArray⟩,.int .i64 yk,.int .u64 yn,.string yt,.slice A1 l1 c1,.int .i64 yo,.slice A2 l2 c2,.int .i64 zk,.int .u64 zn,.string zt,.slice A3 l3 c3,.int .i64 zo,.slice A4 l4 c4] 417)),Nat.zero_add]
     simpa using hq)
    (by
     have d2:=HV2.out.step (w1:=w4.alloc (.cells #[.string ⟨tx.toArray⟩,.int .i64 yk,.int .u64 yn,.string yt,.slice A1 l1 c1,.int .i64 yo,.slice A2 l2 c2,.int .i64 zk,.int .u64 zn,.string zt,.slice A3 l3 c3,.int .i64 zo,.slice A4 l4 c4] 417)) (ok':=fun b=>w0.heap.size+2≤b∧some b≠(Value.slice A0 ps.length c0).ownBlock) (by simp;omega) (fun i hi _=>(kN.block i (by omega) trivial).trans ((k4.block i (by simp;omega) trivial).trans ((K3A.out.block i (by simp;omega) trivial).trans (((Keep.refl (fun _=>True) w2).alloc (.cells #[.int .i64 yk,.int .u64 yn,.string yt,.slice A1 l1 c1,.int .i64 yo,.slice A2 l2 c2] 78)).block i hi trivial)))) (fun b hb hok=>⟨by omega,fun e=>by have:=HOWN.out b e.symm;omega⟩)
     have d3:=HV3.out.step (w1:=w4.alloc (.cells #[.string ⟨tx.toArray⟩,.int .i64 yk,.int .u64 yn,.string yt,.slice A1 l1 c1,.int .i64 yo,.slice A2 l2 c2,.int .i64 zk,.int .u64 zn,.string zt,.slice A3 l3 c3,.int .i64 zo,.slice A4 l4 c4] 417)) (ok':=fun b=>w0.heap.size+2≤b∧some b≠(Value.slice A0 ps.length c0).ownBlock) (by simp;omega) (fun i hi _=>(kN.block i (by omega) trivial).trans ((k4.block i (by simp;omega) trivial).trans (((Keep.refl (fun _=>True) w3).alloc (.cells #[.int .i64 zk,.int .u64 zn,.string zt,.slice A3 l3 c3,.int .i64 zo,.slice A4 l4 c4] 78)).block i hi trivial))) (fun b hb hok=>⟨by simp at hok;omega,fun e=>by have:=HOWN.out b e.symm;simp at hok;omega⟩)
     exact(d2.and d3).imp fun w' h=>PR.cons (t:=tx) h.1.mem h.2.mem .nil) (by simp) (by simp;omega) (by simp;omega)
   obtain⟨g5,cap5,w5,hap,hrow5,k5,_⟩:=hstep
   simp only [List.length_singleton]at hap hrow5
   have hL5:=k5.blk (kN.blk hL4 trivial) (HF.out _ (by omega))
   have cL5:=(blk_cell hL5 0).trans rfl
   have fL5:=blk_free hL5 0
   have hit5:=k5.blk (kN.blk (kk4.blk hit1 trivial) trivial) (HF.out _ (by omega))
   have hap':(Builtin.append_ #[414,414] 414 #[.slice A0 ps.length c0,.slice (some ⟨w4.heap.size,0,none⟩) 1 1]).run Tryz.prog (w4.alloc (.cells #[.string ⟨tx.toArray⟩,.int .i64 yk,.int .u64 yn,.string yt,.slice A1 l1 c1,.int .i64 yo,.slice A2 l2 c2,.int .i64 zk,.int .u64 zn,.string zt,.slice A3 l3 c3,.int .i64 zo,.slice A4 l4 c4] 417))=.ok (.slice (some ⟨g5,0,none⟩) (ps.length+1) cap5) w5:=hap
   have HAP:=Lib.hid hap'
   obtain⟨A8,l8,c8,hs8⟩:∃A8 l8 c8,s4=.slice A8 l8 c8:=by
    obtain⟨A,c,e,_⟩:=hs4
    exact⟨A,_,c,e⟩
   subst hs8
   have HR5:=Lib.hid hrow5
   have K5:=Lib.hid k5
   have KK4:=Lib.hid kk4
   have KN:=Lib.hid kN
   clear hap hap' hcall3 hs4 hb7 hb9 hrow5 k5 kk4 kN
   go_wp2_with (at_builtin;refine wpList_append_eq rfl _ _ 414 rfl _ _ _ _ rfl rfl HAP.out ?_)
   go_roundg (leftOf es (seen.push e.born)).size
   case measure=>have:=LF.out;omega
   case rel=>
    have kset:New w5 w5:=Keep.refl _ _
    refine⟨?_,seen.push e.born,clock,picked++[e],ps++[(tx,uk,uv)],.slice (some ⟨g5,0,none⟩) (ps.length+1) cap5,?_,?_,Nat.le_refl _,Nat.le_refl _,?_,?_,?_,?_⟩
    ·refine Keep.setCell ?_ (.inl (by simp)) _
     exact((K01.out.trans KK4.out).trans KN.out).then K5.out (fun i hi _=>HF.out i (by omega))
    ·simpa using blk_set hL5 0 (.slice (some ⟨g5,0,none⟩) (ps.length+1) cap5)
    ·exact blk_far hit5 (p:=⟨w0.heap.size,0,none⟩) (show w0.heap.size+1≠w0.heap.size by omega) _
    ·rw [List.append_assoc]
     exact PK.out.trans ((left_perm es seen e HB.out.1 HE.out).append_left picked)
    ·simp [hlenL.out]
    ·intro z hz
     rw [List.zip_append hlenL.out]at hz
     rcases List.mem_append.1 hz with hz | hz
     ·exact PR'.out z hz
     ·simp at hz
      subst hz
      exact⟨j,hjq,hjs,HREL.out,HS2.out,HS3.out⟩
    ·exact HR5.out.keep ((Keep.refl (fun b=>b≠w0.heap.size) w5).setCell (p:=⟨w0.heap.size,0,none⟩) (.inr (by simp)) _) (fun b hb=>by show b≠w0.heap.size;omega)
end Go.Proofs.YtfoegolfadhmjaaGreatDoor
