/- What Put writes of a detach is what its reader takes; what is read is the same: plain laws. A detach that is asked can be written; what was read of it is the same. ReadDetach at what Put wrote, and whatever stands behind it. laws.FnReadDetach. -/
import Derived.Test.YtfoegolfadhmjaaGreatDoorU09
import Derived.Test.YtfoegolfadhmjaaGreatDoorU10
import Derived.Test.YtfoegolfadhmjaaGreatDoorV13
import Derived.Test.YtfoegolfadhmjaaGreatDoorDe1
import Derived.Test.YtfoegolfadhmjaaGreatDoorDe2
set_option linter.unusedVariables false
set_option linter.unusedSimpArgs false
set_option maxRecDepth 100000
set_option maxHeartbeats 16000000
set_option linter.all false
namespace Go.Proofs.YtfoegolfadhmjaaGreatDoor
open Go.RowKit Go.WideShapes
theorem u32B_of{h:Nat}{o:Int}{x:List UInt8}(hl:Leaf (.mk 4 h [] [] o []) x):U32B x h:=by
 cases hl with
 | u32z=>exact⟨⟨67,[],rfl,by decide⟩,fun g r w B=>readUint32_43 g r w B⟩
 | u32s n o hh=>
   refine⟨⟨82,_,rfl,by decide⟩,fun g r w B=>(readUint32_52 g (UInt8.ofNat (h/256 ^ 0 % 256)) r w B).mono fun e w' he=>⟨?_,he.2⟩⟩
   rw [he.1,b1,mod_lt hh]
 | u32 n o hh=>
   refine⟨⟨112,_,rfl,by decide⟩,fun g r w B=>(readUint32_70 g (beB 4 h) (beB_len 4 h) r w (by simpa using B)).mono fun e w' he=>⟨?_,he.2⟩⟩
   rw [he.1,beNat_beB 4 h (by simpa using hh)]
theorem boolB_of{c:Bool}{o:Int}{x:List UInt8}(hl:Leaf (.mk 1 (bn c) [] [] o []) x):BoolB x c:=by
 refine .inr ?_
 obtain⟨v,hv⟩:∃v,v=V.mk 1 (bn c) [] [] o []:=⟨_,rfl⟩
 rw [←hv]at hl
 cases hl with
 | b1=>
   obtain rfl:c=true:=by cases c<;>simp [bn]at hv ⊢
   exact⟨⟨65,[],rfl,by decide⟩,fun g r w B=>readBool_41 g r w B⟩
 | b0=>
   obtain rfl:c=false:=by cases c<;>simp [bn]at hv ⊢
   exact⟨⟨66,[],rfl,by decide⟩,fun g r w B=>readBool_42 g r w B⟩
 | bb n o hh=>
   have e:n=bn c:=by simp at hv;exact hv.1
   refine⟨⟨86,_,rfl,by decide⟩,fun g r w B=>(readBool_56 g (UInt8.ofNat (n/256 ^ 0 % 256)) r w B).mono fun e' w' he=>⟨?_,he.2⟩⟩
   rw [he.1,b1,bool_of hh,e]
   cases c<;>rfl
 | _=>simp at hv
def fltL:FltO→List Flt
 | none=>[]
 | some (t0,t1,ps)=>[(t0,t1,flat2 ps)]
theorem FltA.opt{fs:List Flt}(h:FltA fs):∃er,fs=fltL er∧∀t0 t1 ps,er=some (t0,t1,ps)→MapA (fun k=>k=19) (flat2 ps):=by
 rcases h with rfl | ⟨t0,t1,l,rfl,hM⟩
 ·exact⟨none,rfl,fun _ _ _ h=>by cases h⟩
 ·obtain⟨ps,rfl,-⟩:=id hM
  exact⟨some (t0,t1,ps),rfl,fun t0' t1' ps' h=>by cases h;exact hM⟩
theorem putK_all(fs:List (V×V)):PutK fs (fs.map (·.1)):=
 ⟨by simp,fun j h1 h2=>by rw [List.getElem_map];exact .inl (.inl rfl),fun j h1 h2=>absurd h2 (by simp;omega)⟩
theorem fltB_of{er:FltO}(hA:∀t0 t1 ps,er=some (t0,t1,ps)→MapA (fun k=>k=19) (flat2 ps)){x:List UInt8}(he:EncW [fltF (fltL er)] x):FltB x er:=by
 rcases er with _ | ⟨t0,t1,ps⟩
 ·exact nul_enc (he.v1 rfl)
 ·obtain⟨ps',e,-,hT,hn,-⟩:=(hA t0 t1 ps rfl).info
  obtain rfl:=flat2_inj e
  obtain⟨n,d,lb,bs,hh⟩:=fault_law (putK_all _) he hT hn
  exact⟨n,0,d,lb,bs,hh⟩
theorem det_kinds(h:Nat)(cl:Bool)(er:FltO):(fltF (fltL er)).kind≠23∧((fltF (fltL er)).kind=0→er=none):=by
 rcases er with _ | ⟨t0,t1,ps⟩
 ·exact⟨by simp [fltL,fltF,nul,V.kind],fun _=>rfl⟩
 ·exact⟨by simp [fltL,fltF,whole,V.kind],fun e=>by simp [fltL,fltF,whole,V.kind]at e⟩
theorem flag_put{c:Bool}{u:V}(h:Put1 (.mk 1 (bn c) [] [] 0 [],.mk 1 0 [] [] 0 []) u):u=.mk 1 (bn c) [] [] 0 []∨u=nul∧c=false:=by
 rcases h with(h | h) | ⟨h,-,-,hs⟩
 ·exact .inl h
 ·exact absurd h.1 (by simp [V.kind])
 ·refine .inr ⟨h,?_⟩
  cases c
  ·rfl
  ·exact absurd hs (by decide)
theorem detach_law{h:Nat}{cl:Bool}{er:FltO}{ks:List V}{o od:Int}{b:List UInt8}(hA:∀t0 t1 ps,er=some (t0,t1,ps)→MapA (fun k=>k=19) (flat2 ps))(hk:PutK (detF h cl (fltL er)) ks)(he:EncW [.mk 21 0 [] ks o [.mk 5 22 [] [] od []]] b):
 ∃(n:Nat) (d lb:List UInt8) (bs:List (List UInt8)),b=0::(d++(lb++bs.flatten))∧Leaf (.mk 5 22 [] [] od []) d∧LHd n bs.flatten lb∧bs.length=n∧1≤n∧n≤3∧n≤bs.flatten.length∧
  (∀x,bs[0]? =some x→U32B x h)∧(∀x,bs[1]? =some x→BoolB x cl)∧(∀x,bs[2]? =some x→FltB x er)∧(n<2→cl=false)∧(n<3→er=none):=by
 obtain⟨d,lb,body,rfl,hd,hh,hb⟩:=he.comp_inv
 have hlen:=hb.len
 obtain⟨bs,e1,rfl,e3⟩:=hb.split
 have hle:ks.length≤3:=hk.le
 have dk:=det_kinds h cl er
 have enc:∀(j:Nat) (x:List UInt8) (hx:bs[j]? =some x),∃(hj:j<ks.length),EncW [ks[j]] x:=by
  intro j x hx
  obtain⟨hj,rfl⟩:=List.getElem?_eq_some_iff.1 hx
  exact⟨by omega,e3 j (by omega) hj⟩
 refine⟨ks.length,d,lb,bs,rfl,hd,hh,e1,?_,hle,hlen,?_,?_,?_,?_,?_⟩
 ·rcases Nat.eq_zero_or_pos ks.length with h0 | h0
  ·obtain⟨u,hu,hz⟩:=hk.rest 0 (by show 0<3;omega) (by omega)
   have:u=.mk 4 h [] [] 0 []:=Put1.same (v:=.mk 4 h [] [] 0 []) hu (by simp [V.kind])
   rw [this]at hz
   simp [V.kind]at hz
  ·exact h0
 ·intro x hx
  obtain⟨hj,hx⟩:=enc 0 x hx
  have h1:=hk.each 0 hj (by show 0<3;omega)
  rw [show ks[0]=.mk 4 h [] [] 0 [] from Put1.same (v:=.mk 4 h [] [] 0 []) h1 (by simp [V.kind])]at hx
  exact u32B_of ((hx.v1 rfl).leaf1 (by simp [V.kind]))
 ·intro x hx
  obtain⟨hj,hx⟩:=enc 1 x hx
  rcases flag_put (c:=cl) (hk.each 1 hj (by show 1<3;omega))with h1 | ⟨h1,h2⟩
  ·rw [h1]at hx
   exact boolB_of ((hx.v1 rfl).leaf1 (by simp [V.kind]))
  ·rw [h1]at hx
   exact .inl ⟨nul_enc (hx.v1 rfl),h2⟩
 ·intro x hx
  obtain⟨hj,hx⟩:=enc 2 x hx
  have h1:=hk.each 2 hj (by show 2<3;omega)
  rw [show ks[2]=fltF (fltL er) from Put1.same (v:=fltF (fltL er)) h1 dk.1]at hx
  exact fltB_of hA hx
 ·intro hn
  obtain⟨u,hu,hz⟩:=hk.rest 1 (by show 1<3;omega) (by omega)
  rcases flag_put (c:=cl) hu with h1 | ⟨h1,h2⟩
  ·rw [h1]at hz
   simp [V.kind]at hz
  ·exact h2
 ·intro hn
  obtain⟨u,hu,hz⟩:=hk.rest 2 (by show 2<3;omega) (by omega)
  rw [show u=fltF (fltL er) from Put1.same (v:=fltF (fltL er)) hu dk.1]at hz
  exact dk.2 hz
theorem AbleW.app{l m:List V}(h:AbleW l)(k:AbleW m):AbleW (l++m):=by
 induction h with
 | nil=>exact k
 | plain h _ ih=>exact .plain h ih
 | comp hc hk hm _ _ ih=>exact .comp hc hk hm ih
theorem AbleW.takeW{l:List V}(h:AbleW l):∀n,AbleW (l.take n):=by
 induction h with
 | nil=>intro n;simpa using AbleW.nil
 | plain h _ ih=>intro n;cases n with
   | zero=>simpa using AbleW.nil
   | succ n=>exact .plain h (ih n)
 | comp hc hk hm _ _ ih=>intro n;cases n with
   | zero=>simpa using AbleW.nil
   | succ n=>exact .comp hc hk hm (ih n)
theorem det_ks{h:Nat}{cl:Bool}{er:FltO}{ks:List V}(hk:PutK (detF h cl (fltL er)) ks):∃x1,(x1=.mk 1 (bn cl) [] [] 0 []∨x1=nul)∧ks=[V.mk 4 h [] [] 0 [],x1,fltF (fltL er)].take ks.length:=by
 have hle:ks.length≤3:=hk.le
 have g0:∀(hj:0<ks.length),ks[0]=.mk 4 h [] [] 0 []:=fun hj=>Put1.same (v:=.mk 4 h [] [] 0 []) (hk.each 0 hj (by show 0<3;omega)) (by simp [V.kind])
 have g2:∀(hj:2<ks.length),ks[2]=fltF (fltL er):=fun hj=>Put1.same (v:=fltF (fltL er)) (hk.each 2 hj (by show 2<3;omega)) (det_kinds h cl er).1
 have g1:∀(hj:1<ks.length),ks[1]=.mk 1 (bn cl) [] [] 0 []∨ks[1]=nul:=fun hj=>(flag_put (c:=cl) (hk.each 1 hj (by show 1<3;omega))).imp id (·.1)
 by_cases h1:1<ks.length
 ·refine⟨ks[1],g1 h1,List.ext_getElem (by simp;omega) fun j h2 h3=>?_⟩
  rw [List.getElem_take]
  match j,h2 with
  | 0,h2=>exact g0 h2
  | 1,h2=>rfl
  | 2,h2=>exact g2 h2
  | j+3,h2=>omega
 ·refine⟨nul,.inr rfl,List.ext_getElem (by simp;omega) fun j h2 h3=>?_⟩
  rw [List.getElem_take]
  match j,h2 with
  | 0,h2=>exact g0 h2
  | j+1,h2=>omega
theorem det_able0{h:Nat}(hh:h<4294967296){cl:Bool}{er:FltO}{od:Int}(aF:AbleW [fltF (fltL er)])(hw:wt (fltF (fltL er))≤49000000){ks:List V}(hk:PutK (detF h cl (fltL er)) ks):
 PutOK (.mk 21 0 [] ks 0 [.mk 5 22 [] [] od []])∧wt (.mk 21 0 [] ks 0 [.mk 5 22 [] [] od []])≤50000000:=by
 have hle:ks.length≤3:=hk.le
 obtain⟨x1,hx1,hks⟩:=det_ks hk
 have a1:AbleL [x1]:=by
  rcases hx1 with rfl | rfl
  ·exact .leaf (.bool _ 0 (by cases cl<;>decide)) .nil
  ·exact .leaf (LeafOk.null 0) .nil
 have w1:wt x1=12:=by rcases hx1 with rfl | rfl<;>simp [nul,wt,wts]
 have hall:AbleW [V.mk 4 h [] [] 0 [],x1,fltF (fltL er)]:=.plain (.leaf (.u32 h 0 hh) .nil) (.plain a1 aF)
 have hwt:wt (.mk 21 0 [] ks 0 [.mk 5 22 [] [] od []])≤50000000:=by
  have h1:=wts_take [V.mk 4 h [] [] 0 [],x1,fltF (fltL er)] ks.length
  rw [←hks]at h1
  simp only [wts,wt,List.length_nil,Nat.add_zero]at h1 ⊢
  omega
 exact⟨put_ok _ _ (Nat.le_refl _) (.comp (by omega) (by rw [hks];exact hall.takeW _) (by omega) .nil) (by omega),hwt⟩
theorem det_sample{od:Int}{ks:List V}(hk:PutK (detF 1 false (fltL none)) ks):PutOK (.mk 21 0 [] ks 0 [.mk 5 22 [] [] od []])∧wt (.mk 21 0 [] ks 0 [.mk 5 22 [] [] od []])≤50000000:=
 det_able0 (h:=1) (cl:=false) (er:=none) (by omega) (.plain (.leaf (LeafOk.null 0) .nil) .nil) (by simp [fltL,fltF,nul,wt,wts]) hk
theorem det_able{h:Nat}(hh:h<4294967296){cl:Bool}{er:FltO}{od:Int}(hA:∀t0 t1 ps,er=some (t0,t1,ps)→MapA (fun k=>k=19) (flat2 ps))(hF:FitL [.mk 21 0 [] ((detF h cl (fltL er)).map (·.1)) 0 [.mk 5 22 [] [] 0 []]])(hc:cnt (.mk 21 0 [] ((detF h cl (fltL er)).map (·.1)) 0 [.mk 5 22 [] [] 0 []])≤300){ks:List V}(hk:PutK (detF h cl (fltL er)) ks):
 PutOK (.mk 21 0 [] ks 0 [.mk 5 22 [] [] od []])∧wt (.mk 21 0 [] ks 0 [.mk 5 22 [] [] od []])≤50000000:=by
 have hkid:FitL ((detF h cl (fltL er)).map (·.1)):=by
  cases hF with
  | cons _ h _ _=>exact h
 have hsz:=hkid.short
 have hfl:FitL [fltF (fltL er)]:=by
  have:FitL [V.mk 4 h [] [] 0 [],.mk 1 (bn cl) [] [] 0 [],fltF (fltL er)]:=hkid
  cases this with
  | cons _ _ _ h=>cases h with
    | cons _ _ _ h=>exact h
 have hwt:wt (fltF (fltL er))≤49000000:=by
  have e:(detF h cl (fltL er)).map (·.1)=[V.mk 4 h [] [] 0 [],.mk 1 (bn cl) [] [] 0 [],fltF (fltL er)]:=rfl
  rw [e]at hc hsz
  simp only [cnt,cnts,wts,wt,List.length_nil,Nat.add_zero]at hc hsz
  omega
 refine det_able0 hh ?_ hwt hk
 rcases er with _ | ⟨t0,t1,ps⟩
 ·exact .plain (.leaf (LeafOk.null 0) .nil) .nil
 ·have hM:=hA t0 t1 ps rfl
  have hk3:FitL ((fauF t0 t1 (flat2 ps)).map (·.1)):=by
   have:FitL [whole 29 ((fauF t0 t1 (flat2 ps)).map (·.1))]:=hfl
   cases this with
   | cons _ h _ _=>exact h
  have q:∀v∈(fauF t0 t1 (flat2 ps)).map (·.1),AbleL [v]:=by
   rw [fau_kids]at hk3 ⊢
   intro v hv
   simp only [List.mem_cons,List.mem_nil_iff,or_false]at hv
   rcases hv with rfl | rfl | rfl
   ·have:=hk3.all 0 (by simp)
    exact .leaf (.sym t0 0 this.short (this.txt (.inr rfl))) .nil
   ·have:=hk3.all 1 (by simp)
    unfold txF at this ⊢
    split at this
    ·rename_i e;rw [if_pos e];exact .leaf (.null 0) .nil
    ·rename_i e;rw [if_neg e];exact .leaf (.str t1 0 this.short (this.txt (.inl rfl))) .nil
   ·unfold mpF
    split
    ·exact .leaf (.null 0) .nil
    ·obtain⟨ps',e,h1,h2,h3,-⟩:=hM
     obtain rfl:=flat2_inj e
     exact .map h1 h2 h3 .nil
  have:=AbleW.takeN q ((fauF t0 t1 (flat2 ps)).map (·.1)).length
  rw [List.take_length]at this
  exact .comp (by omega) this (by show 3≤1000;omega) .nil
theorem det_cnts{h:Nat}{cl:Bool}{t0 t1:List UInt8}{ps:List (V×V)}(hc:cnt (.mk 21 0 [] ((detF h cl (fltL (some (t0,t1,ps)))).map (·.1)) 0 [.mk 5 22 [] [] 0 []])≤300):cnts (flat2 ps)≤1000:=by
 refine fault_cnts (t0:=t0) (t1:=t1) (od:=0) ?_
 have e:(detF h cl (fltL (some (t0,t1,ps)))).map (·.1)=[V.mk 4 h [] [] 0 [],.mk 1 (bn cl) [] [] 0 [],.mk 21 0 [] ((fauF t0 t1 (flat2 ps)).map (·.1)) 0 [.mk 5 29 [] [] 0 []]]:=rfl
 rw [e]at hc
 simp only [cnt,cnts,Nat.add_zero]at hc ⊢
 omega
theorem SameC.of_snd{f f':V×V}{a b:V}(e:f.2=f'.2)(h:SameC f a b):SameC f' a b:=by
 unfold SameC at h ⊢
 rw [←e]
 exact h
theorem det_same{h:Nat}{cl:Bool}{er:FltO}{fs:List Flt}(hA:∀t0 t1 ps,er=some (t0,t1,ps)→MapA (fun k=>k=19) (flat2 ps)∧cnts (flat2 ps)≤1000)(hS:FltS er fs):
 ∀j (hj:j<(detF h cl (fltL er)).length),SameC (detF h cl (fltL er))[j] (atN ((detF h cl (fltL er)).map (·.1)) j) (atN ((detF h cl fs).map (·.1)) j):=by
 intro j hj
 have h3:j<3:=hj
 rw [atN_map hj,atN_map (fs:=detF h cl fs) hj]
 match j,h3 with
 | 0,_=>exact sameC_of (fs_leaf _ h [] 0 0 (by omega) (by omega) (fun h=>absurd h (by omega))) (by simp [detF,cnt,cnts]) (by simp [detF,cnt,cnts]) (by simp [detF,nul,cnt,cnts])
 | 1,_=>exact sameC_of (fs_leaf _ (bn cl) [] 0 0 (by omega) (by omega) (fun h=>absurd h (by omega))) (by simp [detF,cnt,cnts]) (by simp [detF,cnt,cnts]) (by simp [detF,cnt,cnts])
 | 2,_=>
   rcases er with _ | ⟨t0,t1,ps⟩
   ·obtain rfl:fs=[]:=hS
    exact sameC_of (fs_nul tidy_nul sims_nul rfl rfl) (by simp [detF,fltL,fltF,nul,cnt,cnts]) (by simp [detF,fltF,nul,cnt,cnts]) (by simp [detF,nul,cnt,cnts])
   ·obtain⟨us,qs,rfl,hp,hs,-⟩:=hS
    obtain⟨hM,hc⟩:=hA t0 t1 ps rfl
    obtain⟨ps',e,-,hT,-⟩:=hM.info
    obtain rfl:=flat2_inj e
    have hk:∀q∈ps,q.1.kind<21:=fun q hq=>by have:=hT q hq;unfold TextK at this;omega
    have hcu:cnts us≤1000:=by rw [←hs.cnts,←cnts_perm2 hp];exact hc
    have hF:=fault_samec (fault_same (t0:=t0) (t1:=t1) hp hk (mapA_tidy hM) hs) hc hcu
    intro W a0 a1 a2 a3 a4 a5 b0 b1 b2 b3 b4 b5 _ x y hx hy
    have hx':VM W (whole 29 ((fauF t0 t1 (flat2 ps)).map (·.1))) x:=hx
    have hy':VM W (whole 29 ((fauF t0 t1 us).map (·.1))) y:=hy
    refine sameField_comp _ _ (by show 3≤3;omega) (by show 3≤3;omega) (fun j hj=>?_) W a0 a1 a2 a3 a4 a5 b0 b1 b2 b3 b4 b5 x y hx' hy'
    refine SameC.of_snd ?_ (hF j hj)
    match j,hj with
    | 0,_=>rfl
    | 1,_=>rfl
    | 2,_=>rfl
theorem LF.nil{w:World}:LF w [] (.slice none 0 0):=⟨none,0,rfl,Nat.le_refl _,by omega,fun h=>absurd rfl h⟩
theorem detachOf_one(fs:List Flt)(w:World)(s:Value)(hs:LF w fs s):Calls Tryz.prog 8 #[.agg #[.int .u32 1,.bool false,s]] w fun e w'=>∃d,e=.returned (.agg #[.int .u64 22,.slice (some ⟨d,0,none⟩) 3 3])∧New w w'∧FM w' (detF 1 false fs) (.slice (some ⟨d,0,none⟩) 3 3):=
 detachOf_is 1 (by omega) false fs w s hs
theorem detBack{h:Nat}{cl:Bool}{er:FltO}{od:Int}(hA:∀t0 t1 ps,er=some (t0,t1,ps)→MapA (fun k=>k=19) (flat2 ps)){ks:List V}{b r:List UInt8}(hk:PutK (detF h cl (fltL er)) ks)(he:EncW [.mk 21 0 [] ks 0 [.mk 5 22 [] [] od []]] b)(w:World)(VC:Vld w)(v:Value)(hv:SlB w v (b++r))(hmax:(b++r).length≤1099511627776):
 Calls Tryz.prog 7 #[v] w fun e w'=>∃A m cc fs rest,e=.returned (.tuple #[.agg #[.int .u32 (h:Int),.bool cl,.slice A m cc],rest,.bool true])∧New w w'∧FltS er fs∧LF w' fs (.slice A m cc)∧SlB w' rest r:=by
 obtain⟨n,d,lb,bs,rfl,hd,hh,hbn,h1,h3,hlen,f0,f1,f2,g1,g2⟩:=detach_law hA hk he
 have e:(0::(d++(lb++bs.flatten)))++r=0::(d++(lb++(bs.flatten++r))):=by simp
 rw [e]at hv hmax
 have hC:FltC w er:=by
  rcases er with _ | ⟨t0,t1,ps⟩
  ·trivial
  ·obtain⟨ps',e,hi,-⟩:=(hA t0 t1 ps rfl).info
   obtain rfl:=flat2_inj e
   exact⟨hi,fun w1 k1=>pairsC_of (VC.new k1)⟩
 refine(readDetach_is n od d lb r bs hd hh hbn h1 h3 hlen h cl er f0 f1 f2 g1 g2 w hC v hv hmax).mono ?_
 rintro e w' ⟨A,m,cc,fs,rest,rfl,k,hs,hdep⟩
 exact⟨A,m,cc,fs,rest,rfl,k,hs,hdep.here.1,hdep.here.2⟩
end Go.Proofs.YtfoegolfadhmjaaGreatDoor
namespace Go.Proofs.YtfoegolfadhmjaaGreatDoor
open Go.RowKit Go.WideShapes Go.Sort
theorem law3_is(h:Nat)(hh:h<4294967296)(cl:Bool)(fs:List Flt)(forms:Nat)(hfo:forms<18446744073709551616)(r:List UInt8)(w:World)(VC:Vld w)(s vb:Value)(hs:LF w fs s)(hb:SlC w vb r):
 Calls Tryz.prog 3 #[.agg #[.int .u32 (h:Int),.bool cl,s],.int .u64 (forms:Int),vb] w fun e w'=>e=.returned (.bool true)∧New w w':=by
 obtain⟨A,c,rfl,-,-,-⟩:=id hs
 obtain⟨Ab,cb,rfl,hb1,hb2,-⟩:=id hb
 obtain⟨n,hn⟩:∃n,n=fs.length:=⟨_,rfl⟩
 rw [←hn]at hs ⊢
 have M:=Lib.hid hn
 have HS:=Lib.hid hs
 have HB:=Lib.hid hb
 have HV:=Lib.hid VC
 have kA:=(Keep.refl (fun _=>True) w).alloc (.cells #[.int .u32 (h:Int),.bool cl,.slice A n c] 25)
 have hbx:=Lib.hid (blk_new w (.cells #[.int .u32 (h:Int),.bool cl,.slice A n c] 25))
 have hz:=Lib.hid (zzFits14_is h cl A n c (w.alloc (.cells #[.int .u32 (h:Int),.bool cl,.slice A n c] 25)))
 clear hs hn VC hb
 go_enter Tryz.func3,Tryz.ntmps3
 go_wp2_with fail
 refine hz.out.mono ?_
 rintro e w1 ⟨bb,rfl,k1,-⟩
 have k01:=kA.trans k1
 have HBX:=Lib.hid (k1.blk hbx.out trivial)
 cases bb
 ·go_wp2
  go_ret
  exact⟨rfl,k01⟩
 cases big:decide (2147483647<r.length)
 case true=>
  have big':decide ((2147483647:Int)<(r.length:Int))=true:=by simp at big ⊢;omega
  go_wp2
  go_ret
  exact⟨rfl,k01⟩
 have big':decide ((2147483647:Int)<(r.length:Int))=false:=by simp at big ⊢;omega
 have hf1:=detachOf_one [] (w1.alloc (.cells #[.int .u32 1,.bool false,.slice none 0 0] 25)) (.slice none 0 0) LF.nil
 have HF1:=Lib.hid hf1
 clear hf1
 go_wp2_with fail
 refine HF1.out.mono ?_
 rintro e w2 ⟨d,rfl,k2,hfm⟩
 have k02:=(k01.alloc (.cells #[.int .u32 1,.bool false,.slice none 0 0] 25)).trans k2
 have kf:=(Keep.refl (fun _=>True) w2).alloc (.cells #[.int .u64 0,.bool true] 38)
 have hp:=put_is 22 (by omega) (detF 1 false []) (by show 3≤1000;omega) (by show 0<3;omega) (fun ks h=>(det_sample h).1) w2.heap.size true _ _ (hfm.keep kf) ⟨0,blk_new w2 _⟩
 have HP:=Lib.hid hp
 have hsz2:=k02.size
 clear hp hfm
 go_wp2_with fail
 refine HP.out.mono ?_
 rintro e w3 ⟨sl,b,ks,rfl,k3,-,hrow,hpk,henc⟩
 have k03:New w w3:=(k02.alloc (.cells #[.int .u64 0,.bool true] 38)).then k3 (fun i hi _=>by show i≠w2.heap.size;omega)
 have hlen:=henc.short
 have hwt:=(det_sample (od:=0) hpk).2
 have hsl:=hrow.out.here
 obtain⟨Asl,csl,hsh,-⟩:=hsl
 have hsl:=hrow.out.here
 have hrd:=detBack (h:=1) (cl:=false) (er:=none) (fun _ _ _ h=>by cases h) hpk henc w3 (HV.out.new k03) sl (r:=[]) (by rw [List.append_nil];exact hsl) (by simp only [wts,Nat.add_zero]at hlen;simp only [List.append_nil];omega)
 subst hsh
 have HRD:=Lib.hid hrd
 clear hrd hsl hrow hpk henc hlen hwt
 go_wp2_with fail
 refine HRD.out.mono ?_
 rintro e w4 ⟨Au,nu,cu,us,rest,rfl,k4,hfs,hus,-⟩
 have k04:=k03.trans k4
 have hs2:=k2.size
 have kS:=(k2.trans kf).then k3 (ok:=fun _=>True) (fun i hi _=>by show i≠w2.heap.size;omega)
 have hsam:=(k4.blk (kS.blk (blk_new w1 (.cells #[.int .u32 1,.bool false,.slice none 0 0] 25)) trivial) trivial)
 have kO:=(Keep.refl (fun _=>True) w4).alloc (.cells #[.int .u32 1,.bool false,.slice Au nu cu] 25)
 have hone:=blk_new w4 (.cells #[.int .u32 1,.bool false,.slice Au nu cu] 25)
 have HSAM:=Lib.hid (kO.blk hsam trivial)
 have HONE:=Lib.hid hone
 have HUS:=Lib.hid (hus.keep kO)
 have HSC:=Lib.hid (det_same (h:=1) (cl:=false) (er:=none) (fun _ _ _ h=>by cases h) hfs)
 have k05:=k04.trans kO
 have HBX5:=Lib.hid ((k4.trans kO).blk (kS.blk (blk_alloc HBX.out _) trivial) trivial)
 clear hsam hone hus hfs
 have mm:=(Keep.refl (fun _=>True) (w4.alloc (.cells #[.int .u32 1,.bool false,.slice Au nu cu] 25))).drew
 have b7:((w4.alloc (.cells #[.int .u32 1,.bool false,.slice Au nu cu] 25)).drew).heap[w1.heap.size]? =some (.cells #[.int .u32 1,.bool false,.slice none 0 0] 25 (0,0)):=HSAM.out
 have b8:((w4.alloc (.cells #[.int .u32 1,.bool false,.slice Au nu cu] 25)).drew).heap[w4.heap.size]? =some (.cells #[.int .u32 1,.bool false,.slice Au nu cu] 25 (0,0)):=HONE.out
 have ls0:(w4.alloc (.cells #[.int .u32 1,.bool false,.slice Au nu cu] 25)).drew.cell? ⟨w1.heap.size,0,none⟩=some (.int .u32 1):=(blk_cell b7 0).trans rfl;have ls1:(w4.alloc (.cells #[.int .u32 1,.bool false,.slice Au nu cu] 25)).drew.cell? ⟨w1.heap.size,1,none⟩=some (.bool false):=(blk_cell b7 1).trans rfl;have ls2:(w4.alloc (.cells #[.int .u32 1,.bool false,.slice Au nu cu] 25)).drew.cell? ⟨w1.heap.size,2,none⟩=some (.slice none 0 0):=(blk_cell b7 2).trans rfl
 have lo0:(w4.alloc (.cells #[.int .u32 1,.bool false,.slice Au nu cu] 25)).drew.cell? ⟨w4.heap.size,0,none⟩=some (.int .u32 1):=(blk_cell b8 0).trans rfl;have lo1:(w4.alloc (.cells #[.int .u32 1,.bool false,.slice Au nu cu] 25)).drew.cell? ⟨w4.heap.size,1,none⟩=some (.bool false):=(blk_cell b8 1).trans rfl;have lo2:(w4.alloc (.cells #[.int .u32 1,.bool false,.slice Au nu cu] 25)).drew.cell? ⟨w4.heap.size,2,none⟩=some (.slice Au nu cu):=(blk_cell b8 2).trans rfl
 have HFA:=Lib.hid (fun W=>detachOf_one [] W (.slice none 0 0) LF.nil)
 have HFB:=Lib.hid (fun W (k:New (w4.alloc (.cells #[.int .u32 1,.bool false,.slice Au nu cu] 25)) W)=>detachOf_one us W (.slice Au nu cu) (HUS.out.keep k))
 have HSA:=Lib.hid (fun W sA sB h1 h2=>same_is 22 (by omega) (detF 1 false []) (detF 1 false us) (by show 3≤1000;omega) (by show 3≤3;omega) HSC.out W sA sB h1 h2)
 go_wp2_with fail
 go_upto_region 5 with fail
 go_cut [11] (fun s11 wc=>s11=.bool true∧New (w4.alloc (.cells #[.int .u32 1,.bool false,.slice Au nu cu] 25)) wc)
 case first=>
  go_region_law
   (first
    | (go_simp;go_at_call 8;((with_reducible refine(HFA.out _).mono ?_));rintro e wa ⟨da,rfl,ka,hfa⟩;have mm:=Keep.trans (show New (w4.alloc (.cells #[.int .u32 1,.bool false,.slice Au nu cu] 25)) _ by assumption) ka;(try have hfb:=FM.keep hfb ka);have b8:=ka.blk (b:=w4.heap.size) (o:=.cells #[.int .u32 1,.bool false,.slice Au nu cu] 25 (0,0)) (by assumption) trivial;have lo0:wa.cell? ⟨w4.heap.size,0,none⟩=some (.int .u32 1):=(blk_cell b8 0).trans rfl;have lo1:wa.cell? ⟨w4.heap.size,1,none⟩=some (.bool false):=(blk_cell b8 1).trans rfl;have lo2:wa.cell? ⟨w4.heap.size,2,none⟩=some (.slice Au nu cu):=(blk_cell b8 2).trans rfl)
    | (go_simp;go_at_call 8;((with_reducible refine(HFA.out _).mono ?_));rintro e wa ⟨da,rfl,ka,hfa⟩;have mm:=Keep.trans (show New (w4.alloc (.cells #[.int .u32 1,.bool false,.slice Au nu cu] 25)) _ by assumption) ka;(try have hfb:=FM.keep hfb ka))
    | (go_simp;go_at_call 8;((with_reducible refine(HFB.out _ (by assumption)).mono ?_));rintro e wb ⟨db,rfl,kb,hfb⟩;have mm:=Keep.trans (show New (w4.alloc (.cells #[.int .u32 1,.bool false,.slice Au nu cu] 25)) _ by assumption) kb;(try have hfa:=FM.keep hfa kb);have b7:=kb.blk (b:=w1.heap.size) (o:=.cells #[.int .u32 1,.bool false,.slice none 0 0] 25 (0,0)) (by assumption) trivial;have ls0:wb.cell? ⟨w1.heap.size,0,none⟩=some (.int .u32 1):=(blk_cell b7 0).trans rfl;have ls1:wb.cell? ⟨w1.heap.size,1,none⟩=some (.bool false):=(blk_cell b7 1).trans rfl;have ls2:wb.cell? ⟨w1.heap.size,2,none⟩=some (.slice none 0 0):=(blk_cell b7 2).trans rfl)
    | (go_simp;go_at_call 8;((with_reducible refine(HFB.out _ (by assumption)).mono ?_));rintro e wb ⟨db,rfl,kb,hfb⟩;have mm:=Keep.trans (show New (w4.alloc (.cells #[.int .u32 1,.bool false,.slice Au nu cu] 25)) _ by assumption) kb;(try have hfa:=FM.keep hfa kb))
    | (go_simp;go_at_call 10;refine(HSA.out _ _ _ hfa hfb).mono ?_;rintro e wz ⟨rfl,kz⟩;have mm:=Keep.trans (show New (w4.alloc (.cells #[.int .u32 1,.bool false,.slice Au nu cu] 25)) _ by assumption) kz))
  all_goals
   go_wp2
   go_meet
   exact⟨rfl,mm⟩
 case rest=>
  obtain⟨rfl,kc⟩:=hcut
  have k06:=k05.trans kc
  have HB6:=Lib.hid (kc.blk HBX5.out trivial)
  have z0:wc.cell? ⟨w.heap.size,0,none⟩=some (.int .u32 (h:Int)):=(blk_cell HB6.out 0).trans rfl
  have z1:wc.cell? ⟨w.heap.size,1,none⟩=some (.bool cl):=(blk_cell HB6.out 1).trans rfl
  have z2:wc.cell? ⟨w.heap.size,2,none⟩=some (.slice A n c):=(blk_cell HB6.out 2).trans rfl
  have HAF:=Lib.hid (askedDetach_is h cl fs wc (HV.out.new k06) _ (HS.out.keep k06))
  go_wp2_with fail
  refine HAF.out.mono ?_
  rintro e w6 ⟨b6,rfl,k6,hb6⟩
  have HB6':=Lib.hid hb6
  have k07:=k06.trans k6
  have HBX6:=Lib.hid (k6.blk HB6.out trivial)
  have z0:w6.cell? ⟨w.heap.size,0,none⟩=some (.int .u32 (h:Int)):=(blk_cell HBX6.out 0).trans rfl
  have z1:w6.cell? ⟨w.heap.size,1,none⟩=some (.bool cl):=(blk_cell HBX6.out 1).trans rfl
  have z2:w6.cell? ⟨w.heap.size,2,none⟩=some (.slice A n c):=(blk_cell HBX6.out 2).trans rfl
  clear hb6
  cases b6
  ·go_wp2
   go_ret
   exact⟨rfl,k07⟩
  obtain⟨er,hfe,hA⟩:=FltA.opt (HB6'.out (by first | rfl | trivial))
  subst hfe
  have HMA:=Lib.hid hA
  clear hA
  have HF7:=Lib.hid (detachOf_is h hh cl (fltL er) w6 _ (HS.out.keep k07))
  go_wp2_with fail
  refine HF7.out.mono ?_
  rintro e w7 ⟨d7,rfl,k7,hfm7⟩
  have k08:=k07.trans k7
  have HCF:=Lib.hid (compFits_is 22 (by omega) (detF h cl (fltL er)) (by show 3≤1000;omega) w7 (HV.out.new k08) _ hfm7)
  clear hfm7
  go_wp2_with fail
  refine HCF.out.mono ?_
  rintro e w8 ⟨b8,rfl,k8,hb8⟩
  have HB8:=Lib.hid hb8
  have k09:=k08.trans k8
  clear hb8
  cases b8
  ·go_wp2
   go_ret
   exact⟨rfl,k09⟩
  have HFIT:=Lib.hid (HB8.out (by first | rfl | trivial))
  cases h100:decide (100<r.length)
  case true=>
   have h100':decide ((100:Int)<(r.length:Int))=true:=by simp at h100 ⊢;omega
   go_wp2
   go_ret
   exact⟨rfl,k09⟩
  have h100':decide ((100:Int)<(r.length:Int))=false:=by simp at h100 ⊢;omega
  have HBX8:=Lib.hid ((k7.trans k8).blk HBX6.out trivial)
  have z0:w8.cell? ⟨w.heap.size,0,none⟩=some (.int .u32 (h:Int)):=(blk_cell HBX8.out 0).trans rfl
  have z1:w8.cell? ⟨w.heap.size,1,none⟩=some (.bool cl):=(blk_cell HBX8.out 1).trans rfl
  have z2:w8.cell? ⟨w.heap.size,2,none⟩=some (.slice A n c):=(blk_cell HBX8.out 2).trans rfl
  have HF9:=Lib.hid (detachOf_is h hh cl (fltL er) w8 _ (HS.out.keep k09))
  go_wp2_with fail
  refine HF9.out.mono ?_
  rintro e w9 ⟨d9,rfl,k9,hfm9⟩
  have k10:=k09.trans k9
  have kf9:=(Keep.refl (fun _=>True) w9).alloc (.cells #[.int .u64 (forms:Int),.bool false] 38)
  have HP9:=Lib.hid (put_is 22 (by omega) (detF h cl (fltL er)) (by show 3≤1000;omega) (by show 0<3;omega) (fun ks h=>(det_able hh HMA.out HFIT.out.1 HFIT.out.2 h).1) w9.heap.size false _ _ (hfm9.keep kf9) ⟨forms,blk_new w9 _⟩)
  have hsz9:=k10.size
  have hs9:=k9.size
  clear hfm9
  go_wp2_with fail
  refine HP9.out.mono ?_
  rintro e wp ⟨sl9,bt,ks9,rfl,kp,-,hrow9,hpk9,henc9⟩
  have k11:New w wp:=(k10.alloc (.cells #[.int .u64 (forms:Int),.bool false] 38)).then kp (fun i hi _=>by show i≠w9.heap.size;omega)
  have hlen9:=henc9.short
  have hwt9:=(det_able (od:=0) hh HMA.out HFIT.out.1 HFIT.out.2 hpk9).2
  simp only [wts,Nat.add_zero]at hlen9
  have hr100:r.length≤100:=by simp at h100;omega
  have happ:=hrow9.appC (HB.out.keep k11) (by omega) kp.size
  obtain⟨sk2,wq,hap,hrow2,kq,-⟩:=happ
  obtain⟨A9,c9,hsh9⟩:=hrow9.shape
  subst hsh9
  have HAP:=Lib.hid hap
  have kfar:∀i,i<w9.heap.size→some i≠(Value.slice A9 bt.length c9).ownBlock:=fun i hi=>hrow9.far i (by simp;omega)
  have k12:New w wq:=k11.then kq (fun i hi _=>kfar i (by omega))
  have HRD9:=Lib.hid (detBack HMA.out hpk9 henc9 wq (HV.out.new k12) sk2 (r:=r) hrow2.out.here (by rw [List.length_append];omega))
  have q9:=k9.blk HBX8.out trivial
  have l9:=lt_blk q9
  have HQQ:=Lib.hid (kq.blk (kp.blk (blk_alloc q9 (.cells #[.int .u64 (forms:Int),.bool false] 38)) (show w.heap.size≠w9.heap.size by omega)) (kfar _ l9))
  clear q9
  obtain⟨A10,c10,hsh10⟩:=hrow2.shape
  obtain⟨nb,hnb⟩:∃nb,nb=(bt++r).length:=⟨_,rfl⟩
  rw [←hnb]at hsh10
  subst hsh10
  clear hnb
  clear hap hrow9 hrow2 kq hpk9 henc9 hlen9 hwt9
  go_wp2_with (at_builtin;refine wpList_append_eq rfl _ _ 27 rfl _ _ _ _ rfl rfl HAP.out ?_)
  refine HRD9.out.mono ?_
  rintro e wu ⟨Au9,nu9,cu9,us9,rest9,rfl,ku,hfs9,hus9,hrest9⟩
  have k13:=k12.trans ku
  have HSC9:=Lib.hid (det_same (h:=h) (cl:=cl) (fun t0 t1 ps e=>⟨HMA.out t0 t1 ps e,by subst e;exact det_cnts HFIT.out.2⟩) hfs9)
  have HU9:=Lib.hid hus9
  have HR9:=Lib.hid hrest9.toC
  clear hus9 hrest9 hfs9
  have kO9:=(Keep.refl (fun _=>True) wu).alloc (.cells #[.int .u32 (h:Int),.bool cl,.slice Au9 nu9 cu9] 25)
  have k14:=k13.trans kO9
  have mm:=(Keep.refl (fun _=>True) (wu.alloc (.cells #[.int .u32 (h:Int),.bool cl,.slice Au9 nu9 cu9] 25))).drew
  have b7:(wu.alloc (.cells #[.int .u32 (h:Int),.bool cl,.slice Au9 nu9 cu9] 25)).drew.heap[w.heap.size]? =some (.cells #[.int .u32 (h:Int),.bool cl,.slice A n c] 25 (0,0)):=kO9.blk (ku.blk HQQ.out trivial) trivial
  have b8:(wu.alloc (.cells #[.int .u32 (h:Int),.bool cl,.slice Au9 nu9 cu9] 25)).drew.heap[wu.heap.size]? =some (.cells #[.int .u32 (h:Int),.bool cl,.slice Au9 nu9 cu9] 25 (0,0)):=blk_new wu (.cells #[.int .u32 (h:Int),.bool cl,.slice Au9 nu9 cu9] 25)
  have ls0:(wu.alloc (.cells #[.int .u32 (h:Int),.bool cl,.slice Au9 nu9 cu9] 25)).drew.cell? ⟨w.heap.size,0,none⟩=some (.int .u32 (h:Int)):=(blk_cell b7 0).trans rfl
  have ls1:(wu.alloc (.cells #[.int .u32 (h:Int),.bool cl,.slice Au9 nu9 cu9] 25)).drew.cell? ⟨w.heap.size,1,none⟩=some (.bool cl):=(blk_cell b7 1).trans rfl
  have ls2:(wu.alloc (.cells #[.int .u32 (h:Int),.bool cl,.slice Au9 nu9 cu9] 25)).drew.cell? ⟨w.heap.size,2,none⟩=some (.slice A n c):=(blk_cell b7 2).trans rfl
  have lo0:(wu.alloc (.cells #[.int .u32 (h:Int),.bool cl,.slice Au9 nu9 cu9] 25)).drew.cell? ⟨wu.heap.size,0,none⟩=some (.int .u32 (h:Int)):=(blk_cell b8 0).trans rfl
  have lo1:(wu.alloc (.cells #[.int .u32 (h:Int),.bool cl,.slice Au9 nu9 cu9] 25)).drew.cell? ⟨wu.heap.size,1,none⟩=some (.bool cl):=(blk_cell b8 1).trans rfl
  have lo2:(wu.alloc (.cells #[.int .u32 (h:Int),.bool cl,.slice Au9 nu9 cu9] 25)).drew.cell? ⟨wu.heap.size,2,none⟩=some (.slice Au9 nu9 cu9):=(blk_cell b8 2).trans rfl
  have HFA:=Lib.hid (fun W (k:New (wu.alloc (.cells #[.int .u32 (h:Int),.bool cl,.slice Au9 nu9 cu9] 25)) W)=>detachOf_is h hh cl (fltL er) W (.slice A n c) (HS.out.keep (k14.trans k)))
  have HFB:=Lib.hid (fun W (k:New (wu.alloc (.cells #[.int .u32 (h:Int),.bool cl,.slice Au9 nu9 cu9] 25)) W)=>detachOf_is h hh cl us9 W (.slice Au9 nu9 cu9) ((HU9.out.keep kO9).keep k))
  have HSA:=Lib.hid (fun W sA sB h1 h2=>same_is 22 (by omega) (detF h cl (fltL er)) (detF h cl us9) (by show 3≤1000;omega) (by show 3≤3;omega) HSC9.out W sA sB h1 h2)
  have HLE:=Lib.hid (fun W (k:New (wu.alloc (.cells #[.int .u32 (h:Int),.bool cl,.slice Au9 nu9 cu9] 25)) W)=>left_is r W rest9 (.slice Ab r.length cb) ((HR9.out.keep kO9).keep k) (HB.out.keep (k14.trans k)))
  clear b7 b8
  go_wp2_with fail
  go_region_law
   (first
    | (go_simp;go_at_call 8;((with_reducible refine(HFA.out _ (by assumption)).mono ?_));rintro e wa ⟨da,rfl,ka,hfa⟩;have mm:=Keep.trans (show New (wu.alloc (.cells #[.int .u32 (h:Int),.bool cl,.slice Au9 nu9 cu9] 25)) _ by assumption) ka;have lo0:=ka.cell lo0 trivial;have lo1:=ka.cell lo1 trivial;have lo2:=ka.cell lo2 trivial)
    | (go_simp;go_at_call 8;((with_reducible refine(HFB.out _ (by assumption)).mono ?_));rintro e wb ⟨db,rfl,kb,hfb⟩;have mm:=Keep.trans (show New (wu.alloc (.cells #[.int .u32 (h:Int),.bool cl,.slice Au9 nu9 cu9] 25)) _ by assumption) kb;have hfa:=FM.keep hfa kb)
    | (go_simp;go_at_call 10;refine(HSA.out _ _ _ hfa hfb).mono ?_;rintro e wz ⟨rfl,kz⟩;have mm:=Keep.trans (show New (wu.alloc (.cells #[.int .u32 (h:Int),.bool cl,.slice Au9 nu9 cu9] 25)) _ by assumption) kz)
    | (go_simp;go_at_call 13;((with_reducible refine(HLE.out _ (by assumption)).mono ?_));rintro e wy ⟨rfl,ky⟩;have mm:=Keep.trans (show New (wu.alloc (.cells #[.int .u32 (h:Int),.bool cl,.slice Au9 nu9 cu9] 25)) _ by assumption) ky))
  all_goals
   go_wp2
   go_ret
   exact⟨rfl,k14.trans mm⟩
end Go.Proofs.YtfoegolfadhmjaaGreatDoor
