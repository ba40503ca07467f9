import Derived.Test.YtfoegolfadhmjaaGreatDoorV14
import Derived.Test.YtfoegolfadhmjaaGreatDoorDe3
import Derived.Test.YtfoegolfadhmjaaGreatDoorCards
set_option maxRecDepth 100000
set_option maxHeartbeats 4000000
set_option linter.all false
namespace Go.Proofs.YtfoegolfadhmjaaGreatDoor
open Go.RowKit Go.WideShapes Go.ChangeShapes Go.Lib
section
variable {H:Type} {enc:TypeId×Value→H} {w:World} {sp:Nat→Bool} {held:Bool}
theorem trod_faults{fuel:Nat}{c:Value}{x:DataW H×List MemPlace}(h:DataW.trod enc Tryz.prog w 0 sp held fuel 23 [c]=some x):∃fs,LF w fs c:=by
 rcases DataW.trod_slice Tryz.underlying23 h with⟨e,-⟩ | ⟨a,len,cap,elems,rest,n',hn',e,-,-,hl,hm,hlen,hel,-⟩
 ·cases e
  exact⟨[],none,0,rfl,Nat.le_refl _,by omega,fun h=>absurd rfl h⟩
 ·cases e
  rw [show Tryz.prog.cellsOf 45=3 by kernel_rfl]at hel
  have key:∀j,j≤len→∃fs:List Flt,fs.length=j∧∀q (hq:q<fs.length),∃sl,w.cell? ((a.add (q*3)).add 0)=some (.string ⟨fs[q].1.toArray⟩)∧w.cell? ((a.add (q*3)).add 1)=some (.string ⟨fs[q].2.1.toArray⟩)∧w.cell? ((a.add (q*3)).add 2)=some sl∧LM w fs[q].2.2 sl:=by
   intro j
   induction j with
   | zero=>intro _;exact⟨[],rfl,fun q hq=>absurd hq (by simp)⟩
   | succ j ih=>
     intro hj
     obtain⟨fs,e1,e2⟩:=ih (by omega)
     have hE:=hel j (by omega)
     rw [List.getElem?_eq_getElem (show j<elems.length by omega),Option.bind_eq_some_iff]at hE
     obtain⟨cj,hc,ht⟩:=hE
     obtain⟨-,hc1,hc2⟩:=World.cells?_some hc
     obtain⟨t0,t1,l,s,rfl,hL⟩:=trod_fault ht
     refine⟨fs++[(t0,t1,l)],by simp [e1],fun q hq=>?_⟩
     rw [List.length_append,List.length_singleton]at hq
     by_cases hlt:q<fs.length
     ·rw [List.getElem_append_left hlt]
      exact e2 q hlt
     ·obtain rfl:q=fs.length:=by omega
      have h1:(fs++[(t0,t1,l)])[fs.length]'(by simp)=(t0,t1,l):=by simp
      rw [h1,e1]
      exact⟨s,hc2 0 (by omega),hc2 1 (by omega),hc2 2 (by omega),hL⟩
  obtain⟨fs,rfl,e2⟩:=key len (Nat.le_refl _)
  refine⟨fs,some a,cap,rfl,hl,by unfold maxLen at hm;omega,fun hne=>?_⟩
  have hs:a.spot=none:=by
   obtain⟨sl,h0,-⟩:=e2 0 (List.length_pos_iff.2 hne)
   unfold World.cell? at h0
   have ha:(a.add (0*3)).add 0=a:=rfl
   rw [ha]at h0
   split at h0
   ·cases hsp:a.spot with
    | none=>rfl
    | some u=>rw [hsp]at h0;simp at h0
   ·cases h0
  obtain⟨d,i,s⟩:=a
  cases hs
  refine⟨d,i,rfl,fun q hq=>?_⟩
  obtain⟨sl,h0,h1,h2,h3⟩:=e2 q hq
  rw [plain_add,plain_add]at h0 h1 h2
  exact⟨sl,h0,h1,h2,h3⟩
theorem under25:fieldsOf (Tryz.prog.underlying 25)=some [(22,0),(4,1),(23,2)]:=by kernel_rfl
theorem trod_detach{fuel:Nat}{cs:List Value}{x:DataW H×List MemPlace}(h:DataW.trod enc Tryz.prog w 0 sp held fuel 25 cs=some x):∃(n:Nat) (cl:Bool) (fs:List Flt) (s:Value),n<4294967296∧cs=[.int .u32 (n:Int),.bool cl,s]∧LF w fs s:=by
 obtain⟨n,rfl,hl,hf⟩:=trod_fields under25 h
 rw [show Tryz.prog.cellsOf 25=3 by kernel_rfl]at hl
 obtain⟨y0,h0⟩:=hf 0 _ rfl
 obtain⟨y1,h1⟩:=hf 1 _ rfl
 obtain⟨y2,h2⟩:=hf 2 _ rfl
 match cs,hl with
 | [c0,c1,c2],_=>
   rw [show Tryz.prog.cellsOf 22=1 by kernel_rfl]at h0
   rw [show Tryz.prog.cellsOf 4=1 by kernel_rfl]at h1
   rw [show Tryz.prog.cellsOf 23=1 by kernel_rfl]at h2
   simp only [List.drop_zero,List.drop_succ_cons,List.take_succ_cons,List.take_zero]at h0 h1 h2
   obtain⟨z,e0,hz⟩:=trod_int1 Tryz.underlying22 h0
   obtain⟨cl,e1,-⟩:=DataW.trod_bool Tryz.underlying4 h1
   obtain⟨fs,hF⟩:=trod_faults h2
   have hz':0≤z∧z<4294967296:=by
    simp only [Lit.wf,decide_eq_true_eq,Bool.and_eq_true]at hz
    have u1:IntKind.u32.min=0:=by decide
    have u2:IntKind.u32.max=4294967295:=by decide
    omega
   obtain⟨m,rfl⟩:=Int.eq_ofNat_of_zero_le hz'.1
   cases e0
   cases e1
   exact⟨m,cl,fs,c2,by omega,rfl,hF⟩
end
open Go.ChangeAt
theorem stand25:Tryz.prog.wantsStandIn 25=false:=by kernel_rfl
theorem dt_lift(os:Os)(started:os.Started)(H:Type)(enc:TypeId×Value→H):
 ReturnsInHanded {} Tryz.checked os 3 .any (fun w args=>(Rows.fnReadDetachSpec.pre enc Tryz.prog Tryz.f3 [] false w args∧laidMetH Tryz.prog laidL w)∧sizedMet enc Tryz.prog Tryz.f3 (OpenSpec.ofChange Rows.fnReadDetachSpec) false w args)
  (Rows.fnReadDetachSpec.post enc Tryz.prog Tryz.f3 false true false false):=by
 refine returnsInHanded_of_change_and (C:=Tryz.checked) (X:=fun w _=>laidMetH Tryz.prog laidL w) (fun _ _ _ hh h=>h.of_heap hh) own started (by kernel_rfl) Tryz.func3
  (ChangeSpec.witness_shaped (enc:=enc) (C:=Tryz.checked) (os:=os) (X:=fun w _=>laidMetH Tryz.prog laidL w) false (laidWorld os) #[.agg #[.int .u32 0,.bool false,.slice none 0 0],.int .u64 0,.slice none 0 0] 8 rfl (World.shaped_of_RefB (by kernel_rfl) (by kernel_rfl)) (by kernel_rfl) (by kernel_rfl) (by kernel_rfl)
   (by rw [MakeChecks.laidMetH_plain _ _ _ laid_own];exact laid_met os _)) ?_
 intro W base args ds gs before hval0 hW _ _ hL _
 have hval:∀(j:Nat) t v,Tryz.f3.params[j]? =some t→args[j]? =some v→Value.okWide Tryz.prog W .any base t v:=hval0
 have hW':=hW
 have hlt:=hW.lt
 obtain⟨p,q,hA0,hV,rfl,hfz,hnd⟩:=hW
 have hA:DataW.TrodAll enc Tryz.prog W 0 (fun _=>true) true Tryz.f3.params.toList args.toList ds p:=hA0
 rw [Tryz.params3]at hA hval
 obtain⟨v0,v1,v2,d0,d1,d2,p0,p1,p2,rfl,rfl,rfl,h0,h1,h2⟩:=trodAll_three hA
 obtain⟨rfl,rfl⟩:=trodVars_none hV
 obtain⟨cs,rfl,hcs⟩:=okWide_struct Tryz.underlying25 (hval 0 25 v0 rfl rfl)
 obtain⟨z,rfl⟩:=okWide_int Tryz.underlying26 (hval 1 26 v1 rfl rfl)
 obtain⟨A,n,c,rfl⟩:=okWide_slice Tryz.underlying27 (hval 2 27 v2 rfl rfl)
 obtain⟨f0,g0⟩:=id h0
 obtain⟨f1,g1⟩:=id h1
 obtain⟨f2,g2⟩:=id h2
 obtain⟨hn,cl,fl,s,hhn,e0,hs⟩:=trod_detach g0
 obtain⟨z',e1,hz⟩:=trod_int1 Tryz.underlying26 g1
 obtain⟨r,hr⟩:=trod_bytes g2
 cases e1
 obtain⟨cs⟩:=cs
 obtain rfl:cs=_:=e0
 have hz':0≤z∧z<18446744073709551616:=by
  simp only [Lit.wf,decide_eq_true_eq,Bool.and_eq_true]at hz
  have u1:IntKind.u64.min=0:=by decide
  have u2:IntKind.u64.max=18446744073709551615:=by decide
  omega
 obtain⟨m,rfl⟩:=Int.eq_ofNat_of_zero_le hz'.1
 rw [MakeChecks.laidMetH_plain _ _ _ laid_own]at hL
 clear hA0 hval0 hval
 refine(law3_is hn hhn cl fl m (by omega) r W (vld_laid hL) s _ hs hr).mono ?_
 rintro e W' ⟨rfl,k⟩
 have bel:=New.below k
 have hl:∀x∈p0++p1++p2,x.block<W.heap.size:=fun x hx=>hlt x (by simpa using hx)
 refine⟨_,rfl,_,_,_,[],p0++(p1++p2),[],hW',trodAll_mk1 (shut_bool Tryz.underlying4 _),trodAll_mk3 ?_ ?_ ?_,rfl,bel.frame _,fun h=>by cases h⟩
 ·exact Below.trod laid_out (by kernel_rfl) (of_decide_eq_true (by kernel_rfl)) h0 bel fun x hx=>hl x (by simp [hx])
 ·exact Below.trod laid_out (by kernel_rfl) (of_decide_eq_true (by kernel_rfl)) h1 bel fun x hx=>hl x (by simp [hx])
 ·exact Below.trod laid_out (by kernel_rfl) (of_decide_eq_true (by kernel_rfl)) h2 bel fun x hx=>hl x (by simp [hx])
theorem dt_join:joinedFacts Tryz.prog 3 Tryz.f3 Rows.fnReadDetachSpec Rows.fnReadDetachRow=true:=by
 unfold joinedFacts
 simp only [Bool.and_eq_true]
 repeat' (refine And.intro ?_ ?_)
 all_goals (as_aux_lemma=>kernel_rfl)
theorem dt_nm:Tryz.prog.funcNamed "given.example/pub-saddlebag/laws.FnReadDetach" =some 3:=by kernel_rfl
theorem dt_in:Tryz.f3.isInstance Tryz.prog Rows.fnReadDetachRow.origin Rows.fnReadDetachRow.targs:=of_decide_eq_true (by kernel_rfl)
theorem dt_wr:Tryz.f3.isWrapper Tryz.prog Rows.fnReadDetachRow.wrapper Rows.fnReadDetachRow.mainSum:=by
 unfold Func.isWrapper
 first | (rw [if_pos (by decide+kernel)];kernel_rfl) | (rw [if_neg (by decide+kernel)];exact⟨rfl,rfl⟩)
theorem dt_said:Rows.FnReadDetachSaid:=
 OpenClaim.holds_of_wide 3 Tryz.f3 rfl rfl rfl rfl rfl rfl rfl ⟨rfl,rfl,rfl,rfl,rfl⟩ rfl rfl rfl rfl rfl dt_nm Tryz.func3 dt_join dt_in dt_wr
  (fun os started H enc _=>dt_lift os started H enc)
theorem dt_wf:Rows.fnReadDetachRow.wfByText (OpenSpec.ofChange Rows.fnReadDetachSpec)=true:=by kernel_rfl
theorem dt_go:false=Rows.fnReadDetachRow.goesBy Tryz.pinned.checked.prog:=by kernel_rfl
theorem fnReadDetach_card:Rows.FnReadDetachCardSaid:=
 Claim7.holds_tied_plain_at .later [] [.data,.sentinel,.pinned] true (true,"07602ffb06a6c960d0abeb22ff7e34fae122d74c4eee09c732784a76be53c40a") true
  dt_said (fun _ h=>by cases h) dt_wf (fun _ h=>by cases h) fnReadDetach_row_tie rfl ⟨rfl,rfl⟩ card_main rfl
  (fun f fn hf hfn=>by
   obtain rfl:f=3:=Option.some.inj (dt_nm.symm.trans hf)|>.symm
   obtain rfl:fn=Tryz.f3:=(Option.some.inj (Tryz.func3.symm.trans hfn)).symm
   exact⟨card_looks,fun j t ht=>by
    rw [Tryz.params3]at ht
    rcases j with _ | _ | _ | j
    ·obtain rfl:t=25:=by simpa using ht.symm
     exact stand25
    ·obtain rfl:t=26:=by simpa using ht.symm
     exact stand26
    ·obtain rfl:t=27:=by simpa using ht.symm
     exact stand27
    ·simp at ht⟩)
  dt_go
end Go.Proofs.YtfoegolfadhmjaaGreatDoor
