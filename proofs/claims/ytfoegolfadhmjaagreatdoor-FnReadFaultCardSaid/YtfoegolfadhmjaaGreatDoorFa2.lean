/- laws.FnReadFault returns true, whatever comes in: the row, and the card that ties its tables. -/
import Derived.Test.YtfoegolfadhmjaaGreatDoorU14
import Derived.Test.YtfoegolfadhmjaaGreatDoorFa1
import Derived.Test.YtfoegolfadhmjaaGreatDoorCards
set_option linter.unusedVariables false
set_option linter.unusedSimpArgs false
set_option maxRecDepth 100000
set_option maxHeartbeats 4000000
set_option linter.all false
namespace Go.Proofs.YtfoegolfadhmjaaGreatDoor
open Go.ChangeShapes Go.WideShapes Go.ChangeAt Go.RowKit Go.Lib
theorem fault_lifted(os:Os)(started:os.Started)(H:Type)(enc:TypeId×Value→H):
 ReturnsInHanded {} Tryz.checked os 4 .any (fun w args=>(Rows.fnReadFaultSpec.pre enc Tryz.prog Tryz.f4 [] false w args∧laidMetH Tryz.prog laidL w)∧sizedMet enc Tryz.prog Tryz.f4 (OpenSpec.ofChange Rows.fnReadFaultSpec) false w args)
  (Rows.fnReadFaultSpec.post enc Tryz.prog Tryz.f4 false true false false):=by
 refine returnsInHanded_of_change_and (C:=Tryz.checked) (X:=fun w _=>laidMetH Tryz.prog laidL w) (fun _ _ _ hh h=>h.of_heap hh) own started (by kernel_rfl) Tryz.func4
  (ChangeSpec.witness_shaped (enc:=enc) (C:=Tryz.checked) (os:=os) (X:=fun w _=>laidMetH Tryz.prog laidL w) false (laidWorld os) #[.agg #[.string ⟨#[]⟩,.string ⟨#[]⟩,.slice none 0 0],.int .u64 0,.slice none 0 0] 8 rfl (World.shaped_of_RefB (by kernel_rfl) (by kernel_rfl)) (by kernel_rfl) (by kernel_rfl) (by kernel_rfl)
   (by rw [MakeChecks.laidMetH_plain _ _ _ laid_own];exact laid_met os _)) ?_
 intro W base args ds gs before hval0 hW _ _ hL _
 have hval:∀(j:Nat) t v,Tryz.f4.params[j]? =some t→args[j]? =some v→Value.okWide Tryz.prog W .any base t v:=hval0
 have hW':=hW
 have hlt:=hW.lt
 obtain⟨p,q,hA0,hV,rfl,hfz,hnd⟩:=hW
 have hA:DataW.TrodAll enc Tryz.prog W 0 (fun _=>true) true Tryz.f4.params.toList args.toList ds p:=hA0
 rw [Tryz.params4]at hA hval
 obtain⟨v0,v1,v2,d0,d1,d2,p0,p1,p2,rfl,rfl,rfl,h0,h1,h2⟩:=trodAll_three hA
 obtain⟨rfl,rfl⟩:=trodVars_none hV
 obtain⟨cs,rfl,hcs⟩:=okWide_struct Tryz.underlying45 (hval 0 45 v0 rfl rfl)
 obtain⟨z,rfl⟩:=okWide_int Tryz.underlying26 (hval 1 26 v1 rfl rfl)
 obtain⟨A,n,c,rfl⟩:=okWide_slice Tryz.underlying27 (hval 2 27 v2 rfl rfl)
 obtain⟨f0,g0⟩:=id h0
 obtain⟨f1,g1⟩:=id h1
 obtain⟨f2,g2⟩:=id h2
 obtain⟨t0,t1,l,s,e0,hs⟩:=trod_fault g0
 obtain⟨z',e1,hz⟩:=trod_int1 Tryz.underlying26 g1
 obtain⟨r,hr⟩:=trod_bytes g2
 cases e1
 obtain⟨cs⟩:=cs
 obtain rfl:cs=_:=e0
 have hz':0≤z∧z<18446744073709551616:=by
  simp only [Lit.wf,decide_eq_true_eq,Bool.and_eq_true]at hz
  have u1:IntKind.u64.min=0:=by decide
  have u2:IntKind.u64.max=18446744073709551615:=by decide
  omega
 obtain⟨m,rfl⟩:=Int.eq_ofNat_of_zero_le hz'.1
 rw [MakeChecks.laidMetH_plain _ _ _ laid_own]at hL
 clear hA0 hval0 hval
 refine(law4_is t0 t1 l m (by omega) r W (vld_laid hL) s _ hs hr).mono ?_
 rintro e W' ⟨rfl,k⟩
 have bel:=New.below k
 have hl:∀x∈p0++p1++p2,x.block<W.heap.size:=fun x hx=>hlt x (by simpa using hx)
 refine⟨_,rfl,_,_,_,[],p0++(p1++p2),[],hW',trodAll_mk1 (shut_bool Tryz.underlying4 _),trodAll_mk3 ?_ ?_ ?_,rfl,bel.frame _,fun h=>by cases h⟩
 ·exact Below.trod laid_out (by kernel_rfl) (of_decide_eq_true (by kernel_rfl)) h0 bel fun x hx=>hl x (by simp [hx])
 ·exact Below.trod laid_out (by kernel_rfl) (of_decide_eq_true (by kernel_rfl)) h1 bel fun x hx=>hl x (by simp [hx])
 ·exact Below.trod laid_out (by kernel_rfl) (of_decide_eq_true (by kernel_rfl)) h2 bel fun x hx=>hl x (by simp [hx])
theorem fault_joined:joinedFacts Tryz.prog 4 Tryz.f4 Rows.fnReadFaultSpec Rows.fnReadFaultRow=true:=by
 unfold joinedFacts
 simp only [Bool.and_eq_true]
 repeat' (refine And.intro ?_ ?_)
 all_goals (as_aux_lemma=>kernel_rfl)
theorem fault_named:Tryz.prog.funcNamed "given.example/pub-saddlebag/laws.FnReadFault" =some 4:=by kernel_rfl
theorem fault_inst:Tryz.f4.isInstance Tryz.prog Rows.fnReadFaultRow.origin Rows.fnReadFaultRow.targs:=of_decide_eq_true (by kernel_rfl)
theorem fault_wrap:Tryz.f4.isWrapper Tryz.prog Rows.fnReadFaultRow.wrapper Rows.fnReadFaultRow.mainSum:=by
 unfold Func.isWrapper
 first | (rw [if_pos (by decide+kernel)];kernel_rfl) | (rw [if_neg (by decide+kernel)];exact⟨rfl,rfl⟩)
theorem fnReadFault_said:Rows.FnReadFaultSaid:=
 OpenClaim.holds_of_wide 4 Tryz.f4 rfl rfl rfl rfl rfl rfl rfl ⟨rfl,rfl,rfl,rfl,rfl⟩ rfl rfl rfl rfl rfl fault_named Tryz.func4 fault_joined fault_inst fault_wrap
  (fun os started H enc _=>fault_lifted os started H enc)
theorem fault_wf:Rows.fnReadFaultRow.wfByText (OpenSpec.ofChange Rows.fnReadFaultSpec)=true:=by kernel_rfl
theorem fault_goes:false=Rows.fnReadFaultRow.goesBy Tryz.pinned.checked.prog:=by kernel_rfl
theorem fnReadFault_card:Rows.FnReadFaultCardSaid:=
 Claim7.holds_tied_plain_at .later [] [.data,.sentinel,.pinned] true (true,"07602ffb06a6c960d0abeb22ff7e34fae122d74c4eee09c732784a76be53c40a") true
  fnReadFault_said (fun _ h=>by cases h) fault_wf (fun _ h=>by cases h) fnReadFault_row_tie rfl ⟨rfl,rfl⟩ card_main rfl
  (fun f fn hf hfn=>by
   obtain rfl:f=4:=Option.some.inj (fault_named.symm.trans hf)|>.symm
   obtain rfl:fn=Tryz.f4:=(Option.some.inj (Tryz.func4.symm.trans hfn)).symm
   exact⟨card_looks,fun j t ht=>by
    rw [Tryz.params4]at ht
    rcases j with _ | _ | _ | j
    ·obtain rfl:t=45:=by simpa using ht.symm
     exact stand45
    ·obtain rfl:t=26:=by simpa using ht.symm
     exact stand26
    ·obtain rfl:t=27:=by simpa using ht.symm
     exact stand27
    ·simp at ht⟩)
  fault_goes
end Go.Proofs.YtfoegolfadhmjaaGreatDoor
