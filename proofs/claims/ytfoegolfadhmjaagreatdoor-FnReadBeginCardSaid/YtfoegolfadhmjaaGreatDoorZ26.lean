/- spec.truth, plainField, flag, inner, faults. -/
import Derived.Test.YtfoegolfadhmjaaGreatDoorZ16
import Derived.Test.YtfoegolfadhmjaaGreatDoorZ19
import Derived.Test.YtfoegolfadhmjaaGreatDoorZ20
import Derived.Test.YtfoegolfadhmjaaGreatDoorZ25
set_option linter.all false
set_option maxRecDepth 100000
set_option maxHeartbeats 8000000
namespace Go.Proofs.YtfoegolfadhmjaaGreatDoor
open Go.RowKit Go.WideShapes
theorem LeafOk.numLt{v:V}(h:LeafOk v):v.num<18446744073709551616:=by
 cases h<;>simp only [V.num]<;>first | omega | (rename_i h;exact h.1)
theorem pieces_leaf{v:V}(h:LeafOk v)(f:Value)(A1 A2:Option Addr)(a c1 b c2:Nat)(w:World):
 Calls Tryz.prog 62 #[f,.agg #[.int .i64 v.kind,.int .u64 (v.num:Int),.string ⟨v.text.toArray⟩,.slice A1 a c1,.int .i64 v.of,.slice A2 b c2]] w fun e w'=>∃sl,e=.returned sl∧New w w'∧RowG 143 2 Pcs w' w.heap.size sl (pcs v):=by
 have hn:=h.numLt
 cases h with
 | null o=>exact pieces_null _ _ A1 A2 a c1 b c2 o f w
 | bool n o h=>exact pieces_bool n h _ A1 A2 a c1 b c2 o f w
 | uuid t o h=>exact pieces_uuid 0 t h A1 A2 a c1 b c2 o f w
 | bin t o h=>exact pieces_text 18 160 176 (by simp) 0 t (by omega) A1 A2 a c1 b c2 o f w
 | str t o h hv=>exact pieces_text 19 161 177 (by simp) 0 t (by omega) A1 A2 a c1 b c2 o f w
 | sym t o h hv=>exact pieces_text 20 163 179 (by simp) 0 t (by omega) A1 A2 a c1 b c2 o f w
 | _=>refine pieces_num _ ?_ _ hn _ A1 A2 a c1 b c2 _ f w;simp [isNum,V.kind]
def elemsD(code:UInt8):List V→List UInt8
 | []=>[]
 | v::r=>(pick1 code (pcs v)).getD []++elemsD code r
def elemsA(code:UInt8)(l:List V):Bool:=l.all fun v=>(pick1 code (pcs v)).isSome
theorem elems_is(code:UInt8):∀l:List V,elems code l=if elemsA code l then some (elemsD code l)else none
 | []=>rfl
 | v::r=>by
   have ih:=elems_is code r
   unfold elems
   rw [ih]
   cases h:pick1 code (pcs v)<;>cases h':elemsA code r<;>simp_all [elemsA,elemsD]
theorem elemsD_snoc(code:UInt8)(l:List V)(v:V):elemsD code (l++[v])=elemsD code l++(pick1 code (pcs v)).getD []:=by
 induction l with
 | nil=>simp [elemsD]
 | cons x l ih=>simp [elemsD,ih]
theorem elemsA_snoc(code:UInt8)(l:List V)(v:V):elemsA code (l++[v])=(elemsA code l&&(pick1 code (pcs v)).isSome):=by
 simp [elemsA,List.all_append]
theorem pick1_snoc(code:UInt8)(l:List (UInt8×List UInt8))(p:UInt8×List UInt8):pick1 code (l++[p])=(pick1 code l).or (if p.1==code then some p.2 else none):=by
 unfold pick1
 rw [List.find?_append]
 cases h:l.find? (fun p=>p.1==code)with
 | some q=>simp
 | none=>
   simp only [Option.none_or,Option.map_none,List.find?_cons,List.find?_nil]
   cases hp:p.1==code<;>simp
theorem pick1_len{v:V}(h:LeafOk v)(code:UInt8):((pick1 code (pcs v)).getD []).length≤wt v:=by
 cases hp:pick1 code (pcs v)with
 | none=>simp
 | some d=>
   have:=(pcs_leaf h _ (pick1_mem hp)).short
   simp at this ⊢
   omega
theorem elemsD_len{code:UInt8}:∀{l:List V},(∀v∈l,LeafOk v)→(elemsD code l).length≤wts l
 | [],_=>by simp [elemsD]
 | v::r,h=>by
   have h1:=pick1_len (h v (List.mem_cons_self ..)) code
   have h2:=elemsD_len (code:=code) fun u hu=>h u (List.mem_cons_of_mem _ hu)
   simp only [elemsD,List.length_append,wts]
   omega
theorem pcs_data_len{v:V}(h:LeafOk v){p:UInt8×List UInt8}(hp:p∈pcs v):p.2.length≤200000:=by
 have h1:=(pcs_leaf h p hp).short
 have h2:wt v≤131084:=by cases h<;>simp [wt,wts]<;>omega
 simp at h1
 omega
theorem leaf_wt{v:V}(h:LeafOk v):wt v≤131084:=by cases h<;>simp [wt,wts]<;>omega
theorem leafs_wt:∀{l:List V},(∀v∈l,LeafOk v)→wts l≤l.length*131084
 | [],_=>by simp [wts]
 | v::r,h=>by
   have h1:=leaf_wt (h v (List.mem_cons_self ..))
   have h2:=leafs_wt fun u hu=>h u (List.mem_cons_of_mem _ hu)
   simp only [wts,List.length_cons]
   omega
def mayOf(codes:List UInt8)(ks:List V):List (UInt8×List UInt8):=codes.flatMap fun c=>if (c !=0)&&elemsA c ks then [(c,elemsD c ks)]else []
theorem mayOf_mem{codes:List UInt8}{ks:List V}{p:UInt8×List UInt8}(h:p∈mayOf codes ks):p.1∈codes∧p.1≠0∧elems p.1 ks=some p.2:=by
 obtain⟨c,hc,hp⟩:=List.mem_flatMap.1 h
 split at hp
 ·rename_i hcond
  rw [List.mem_singleton]at hp
  subst hp
  simp only [Bool.and_eq_true,bne_iff_ne,ne_eq]at hcond
  exact⟨hc,hcond.1,by rw [elems_is,if_pos hcond.2]⟩
 ·simp at hp
theorem long_code{k:Int}(h:1≤k∧k≤11∨16≤k∧k≤20):(codedL.lookup k).getD 0=((longC k).toNat:Int)∧longC k≠0∧(([(4,82),(5,83),(8,84),(9,85),(18,160),(19,161),(20,163)]:List (Int×Int)).lookup k).getD 0=((shortC k).toNat:Int):=by
 have hcs:k=1∨k=2∨k=3∨k=4∨k=5∨k=6∨k=7∨k=8∨k=9∨k=10∨k=11∨k=16∨k=17∨k=18∨k=19∨k=20:=by omega
 rcases hcs with rfl | rfl | rfl | rfl | rfl | rfl | rfl | rfl | rfl | rfl | rfl | rfl | rfl | rfl | rfl | rfl<;>exact⟨rfl,by decide,rfl⟩
theorem mayOf_some{k:Int}{ks:List V}(h:ArrOk k ks):1≤(mayOf [shortC k,longC k] ks).length∧(mayOf [shortC k,longC k] ks).length≤2:=by
 have hk:=h.kind
 obtain⟨_,h0,_⟩:=long_code hk
 obtain⟨d,hd⟩:=elems_long (k:=k) (by omega) fun v hv=>⟨(h.all v hv).1,(h.all v hv).2.1⟩
 rw [elems_is]at hd
 have hA:elemsA (longC k) ks=true:=by
  cases e:elemsA (longC k) ks with
  | true=>rfl
  | false=>rw [e]at hd;simp at hd
 have hl:((longC k !=0)&&elemsA (longC k) ks)=true:=by simp [h0,hA]
 simp only [mayOf,List.flatMap_cons,List.flatMap_nil,hl,if_true,List.append_nil,List.length_append,List.length_singleton]
 split<;>simp
theorem mayOf_enc{k:Int}{ks:List V}(h:ArrOk k ks){p:UInt8×List UInt8}(hp:p∈mayOf [shortC k,longC k] ks):EncA ks p.1 p.2:=by
 obtain⟨h1,h2,h3⟩:=mayOf_mem hp
 refine elems_enc h p.1 ?_ h3
 rcases List.mem_cons.1 h1 with e | e
 ·exact .inr ⟨e,h2⟩
 ·rw [List.mem_singleton]at e
  exact .inl e
theorem code_zero(code:UInt8):((code.toNat:Int)==0)=(code==0):=by
 by_cases e:code=0
 ·subst e;rfl
 ·have h1:code.toNat≠0:=fun h=>e (UInt8.toNat_inj.1 (h.trans rfl))
  rw [beq_eq_false_iff_ne.2 e,beq_eq_false_iff_ne.2 (by omega)]
theorem mayOf_len(codes:List UInt8)(ks:List V):(mayOf codes ks).length≤codes.length:=by
 induction codes with
 | nil=>simp [mayOf]
 | cons c l ih=>
   rw [show mayOf (c::l) ks=(if (c !=0)&&elemsA c ks then [(c,elemsD c ks)]else [])++mayOf l ks from rfl,List.length_append,List.length_cons]
   split
   ·rw [List.length_singleton];omega
   ·rw [List.length_nil];omega
theorem mayOf_snoc(codes:List UInt8)(ks:List V)(j:Nat)(code:UInt8)(h:codes[j]? =some code):mayOf (codes.take (j+1)) ks=mayOf (codes.take j) ks++if (code !=0)&&elemsA code ks then [(code,elemsD code ks)]else []:=by
 obtain⟨hj,rfl⟩:=List.getElem?_eq_some_iff.1 h
 rw [←List.take_append_getElem hj]
 unfold mayOf
 rw [List.flatMap_append]
 congr 1
 exact List.append_nil _
theorem code_eq(a b:UInt8):((a.toNat:Int)==(b.toNat:Int))=(a==b):=by
 by_cases e:a=b
 ·subst e;simp
 ·have h1:a.toNat≠b.toNat:=fun h=>e (UInt8.toNat_inj.1 h)
  rw [beq_eq_false_iff_ne.2 e,beq_eq_false_iff_ne.2 (by omega)]
def PM(w:World)(ps:List (UInt8×List UInt8))(s:Value):Prop:=∃cells,SlG 143 2 w s ps.length cells∧Pcs w ps cells
theorem PM.at{w:World}{ps:List (UInt8×List UInt8)}{A:Option Addr}{m c:Nat}(h:PM w ps (.slice A m c))(hne:0<ps.length):∃d i,A=some ⟨d,i,none⟩∧m=ps.length∧∀j (hj:j<ps.length),∃s,w.cell? ⟨d,i+j*2,none⟩=some (.int .i64 (ps[j].1.toNat:Int))∧w.cell? ⟨d,i+j*2+1,none⟩=some s∧SlC w s ps[j].2:=by
 obtain⟨cells,h1,h2⟩:=h
 obtain⟨d,i,e1,e2,_,_,hc⟩:=h1.at (by omega)
 refine⟨d,i,e1,e2,fun j hj=>?_⟩
 obtain⟨s,g1,g2,g3⟩:=h2.at j hj
 exact⟨s,hc _ _ (by omega) g1,by rw [Nat.add_assoc];exact hc _ _ (by omega) g2,g3⟩
theorem elements_is{k:Int}{ks:List V}(h:ArrOk k ks)(hm:ks.length≤1000)(f:Value)(w:World)(s:Value)(hs:LM w ks s):
 Calls Tryz.prog 134 #[f,.int .i64 k,s] w fun e w'=>∃sl,e=.returned sl∧New w w'∧RowG 143 2 Pcs w' w.heap.size sl (mayOf [shortC k,longC k] ks):=by
 obtain⟨hlong,-,hshort⟩:=long_code h.kind
 have H:=Lib.hid h
 have HS:=Lib.hid hs
 obtain⟨A,c,rfl,-,-⟩:=hs.shape
 have hml:ks.length≤1000:=hm
 obtain⟨n,hn⟩:∃n,n=ks.length:=⟨_,rfl⟩
 rw [←hn]at hml HS ⊢
 have M1:=Lib.hid hn
 clear hm hn
 have hmk:=make294 w
 have m0:=IntMap.new w
 obtain⟨u1,e1,m1,k1⟩:=m0.upd 4 82 (by decide)
 obtain⟨u2,e2,m2,k2⟩:=m1.upd 5 83 (by decide)
 obtain⟨u3,e3,m3,k3⟩:=m2.upd 8 84 (by decide)
 obtain⟨u4,e4,m4,k4⟩:=m3.upd 9 85 (by decide)
 obtain⟨u5,e5,m5,k5⟩:=m4.upd 18 160 (by decide)
 obtain⟨u6,e6,m6,k6⟩:=m5.upd 19 161 (by decide)
 obtain⟨u7,e7,m7,k7⟩:=m6.upd 20 163 (by decide)
 have kk:Keep (fun b=>b≠w.heap.size) (w.alloc (.map #[] 0)) u7:=((((((k1.trans k2).trans k3).trans k4).trans k5).trans k6).trans k7)
 have KN:=Lib.hid (((Keep.refl (fun _=>True) w).alloc (.map #[] 0)).then kk (fun i hi _=>by show i≠w.heap.size;omega))
 have hlk:=fun u (N:New u7 u)=>(m7.keep N).look k
 simp only [List.nil_append,List.cons_append]at hlk
 rw [hshort]at hlk
 have hcd:=fun w=>coded_is k w
 rw [hlong]at hcd
 have HLK:=Lib.hid hlk
 have HCD:=Lib.hid hcd
 have lk0:=hlk u7.drew (Keep.refl _ _).drew
 clear hlk hcd kk m0 k1 k2 k3 k4 k5 k6 k7 m1 m2 m3 m4 m5 m6 m7 hlong hshort h hs
 obtain⟨sc,hsc⟩:∃sc,sc=shortC k:=⟨_,rfl⟩
 obtain⟨lc,hlc⟩:∃lc,lc=longC k:=⟨_,rfl⟩
 rw [←hsc,←hlc]
 rw [←hsc]at lk0 HLK
 rw [←hlc]at HCD
 clear hsc hlc
 go_enter Tryz.func134,Tryz.ntmps134
 go_wp2_with fail
 go_upto_region 3 with fail
 go_cut [25,26,27] (fun s25 s26 s27 wc=>∃p:Nat,s25=.slice (some ⟨p,0,none⟩) 2 2∧s26=.int .i64 2∧s27=.int .i64 0∧wc.heap[p]? =some (.cells #[.int .i64 (sc.toNat:Int),.int .i64 (lc.toNat:Int)] 3 (0,0))∧New w wc)
 case first=>
  go_region_law (first | (go_simp;go_at_call 82;refine(HCD.out _).mono ?_;rintro e w4 ⟨rfl,k4⟩;have lk4:=HLK.out w4 ((Keep.refl _ _).drew.trans k4)))
  all_goals (go_wp2_with fail;go_meet)
  all_goals exact⟨_,rfl,rfl,rfl,blk_new _ _,(KN.out.trans ((Keep.refl _ _).drew.trans k4)).alloc _⟩
 case rest=>
  obtain⟨p,rfl,rfl,rfl,hp,kc⟩:=hcut
  clear lk0 HLK HCD hmk e1 e2 e3 e4 e5 e6 e7
  have HP:=Lib.hid hp
  clear hp
  go_wp2_with fail
  go_loopg [8,27] 2 (fun kk s8 s27 wr=>∃j:Nat,j+kk=2∧s27=.int .i64 (j:Int)∧New wc wr∧RowG 143 2 Pcs wr wc.heap.size s8 (mayOf ([sc,lc].take j) ks))
  case atStart=>exact⟨0,by omega,rfl,Keep.refl _ _,RowG.nil pieceCells⟩
  case round=>
   obtain⟨w1,hw1⟩:∃w1,w1=wr:=⟨_,rfl⟩
   subst hw1
   obtain⟨j,hj,rfl,kr,hrow⟩:=hrel
   have hsh:=hrow.shape
   obtain⟨n8,hn8⟩:∃n8,n8=(mayOf ([sc,lc].take j) ks).length:=⟨_,rfl⟩
   rw [←hn8]at hsh
   have HN8:=Lib.hid hn8
   clear hn8
   obtain⟨A8,c8,rfl⟩:=hsh
   have HROW:=Lib.hid hrow
   clear hrow
   rcases gk with _ | kk
   ·obtain rfl:j=2:=by omega
    go_wp2
    go_ret
    exact⟨_,rfl,kc.trans kr,HROW.out.mono kc.size⟩
   ·have hj2:j<2:=by omega
    have tj:decide ((j:Int)<2)=true:=by simp;omega
    obtain⟨code,hcode⟩:∃code,[sc,lc][j]? =some code:=⟨_,List.getElem?_eq_getElem (by simpa using hj2)⟩
    have hcell:w1.cell? ⟨p,0+j,none⟩=some (.int .i64 (code.toNat:Int)):=by
     rw [blk_cell (kr.blk HP.out trivial),Nat.zero_add]
     obtain rfl | rfl:j=0∨j=1:=by omega
     all_goals (simp at hcode;subst hcode;rfl)
    have hcell':w1.cell? ⟨p,j,none⟩=some (.int .i64 (code.toNat:Int)):=by rw [Nat.zero_add]at hcell;exact hcell
    obtain⟨z,hz⟩:∃z,z=(code !=0):=⟨_,rfl⟩
    have hz1:((code.toNat:Int)==0)=!z:=by rw [hz,code_zero];simp [bne]
    have hz2:((code.toNat:Int) !=0)=z:=by unfold bne;rw [hz1];simp
    have HZ:=Lib.hid hz
    clear hz
    go_wp2_with fail
    go_loopg [11,12,35] n (fun kk s11 s12 s35 w2=>∃(i:Nat) (b:Bool),i+kk=n∧s35=.int .i64 (i:Int)∧s12=.bool b∧b=(z&&elemsA code (ks.take i))∧New w1 w2∧RowB w2 w1.heap.size s11 (elemsD code (ks.take i)))
    case atStart=>
     refine⟨0,z,by omega,rfl,rfl,by simp [elemsA],Keep.refl _ _,RowB.nil⟩
    case round=>
     obtain⟨w2,hw2⟩:∃w2,w2=wr:=⟨_,rfl⟩
     subst hw2
     obtain⟨i,b,hi,rfl,rfl,hb,kq,hrq⟩:=hrel
     have hsh:=hrq.shape
     obtain⟨n11,hn11⟩:∃n11,n11=(elemsD code (ks.take i)).length:=⟨_,rfl⟩
     rw [←hn11]at hsh
     have HN11:=Lib.hid hn11
     have HB:=Lib.hid hb
     clear hn11 hb
     obtain⟨A11,c11,rfl⟩:=hsh
     have HRQ:=Lib.hid hrq
     clear hrq
     have hlong:∀q,(elemsD code (ks.take q)).length≤131084000:=fun q=>by
      have h1:=elemsD_len (code:=code) (l:=ks.take q) fun u hu=>(H.out.all u (List.mem_of_mem_take hu)).2.1
      have h2:=wts_take ks q
      have h3:=leafs_wt (l:=ks) fun u hu=>(H.out.all u hu).2.1
      have h4:=M1.out
      omega
     have HL:=Lib.hid hlong
     clear hlong
     rcases gk with _ | kk2
     ·obtain rfl:n=i:=by omega
      have hb2:b=((code !=0)&&elemsA code ks):=by rw [HB.out,HZ.out,M1.out,List.take_length]
      have hsn:=mayOf_snoc [sc,lc] ks j code hcode
      rw [←hb2]at hsn
      have hml2:=mayOf_len ([sc,lc].take j) ks
      have hlt:∀b,some b=(Value.slice A8 n8 c8).ownBlock→b<w1.heap.size:=fun b e=>HROW.out.ownLt e.symm
      have HSN:=Lib.hid hsn
      have HLT:=Lib.hid hlt
      clear hsn hb2 hlt
      cases b
      ·go_wp2_with fail
       go_roundg kk
       case measure=>omega
       case rel=>exact⟨j+1,by omega,congrArg _ (by omega),kr.trans kq,by rw [HSN.out];simpa using HROW.out.keep kq (fun _ _=>trivial)⟩
      ·have kN:=(Keep.refl (fun _=>True) w2).alloc (.cells #[.int .i64 (code.toNat:Int),.slice A11 n11 c11] 143)
       have hnlen:n11=(elemsD code ks).length:=by rw [HN11.out,M1.out,List.take_length]
       have hrd:=HRQ.out.out
       rw [M1.out,List.take_length]at hrd
       obtain⟨g,cap,w7,hap,hrow7,k7,_⟩:=((HROW.out.keep kq (fun _ _=>trivial)).keep kN (fun _ _=>trivial)).step pieceCells (vs:=[(code,elemsD code ks)]) Tryz.underlying140 info143 rfl (by omega) (by omega) w2.heap.size 0 1 [.int .i64 (code.toNat:Int),.slice A11 n11 c11] (fun q z hq=>by rw [blk_cell (blk_new w2 (.cells #[.int .i64 (code.toNat:Int),.slice A11 n11 c11] 143)),Nat.zero_add];simpa using hq)
        ((hrd.step kN.size (fun i hi _=>kN.block i hi trivial) (fun b hb hok=>⟨Nat.le_trans kr.size hok,fun e=>by have:=HLT.out b e;omega⟩)).imp fun w h=>Pcs.cons h.toC .nil) (by simp) (by simp at hml2 ⊢;omega) (by have:=kr.size;have:=kq.size;have:=kN.size;omega)
       simp only [List.length_singleton]at hap hrow7
       have far8:=HROW.out.far
       have HAP:=Lib.hid hap
       have HR7:=Lib.hid hrow7
       have KN7:=Lib.hid (((kr.trans kq).trans kN).then k7 (fun i hi _=>far8 i hi))
       clear hap hrow7 kN k7 far8 hrd hnlen
       go_wp2_with (at_builtin;refine wpList_append_eq rfl _ _ 140 rfl _ _ _ _ rfl rfl HAP.out ?_)
       go_roundg kk
       case measure=>omega
       case rel=>exact⟨j+1,by omega,congrArg _ (by omega),KN7.out,by rw [HSN.out];simpa using HR7.out⟩
     ·have hin:i<n:=by omega
      have ti:decide (i<n)=true:=by simpa using hin
      have hi1:i<ks.length:=by rw [←M1.out];exact hin
      obtain⟨d2,i2,hAe,-,-,-,hat⟩:=(HS.out.keep (kc.trans (kr.trans kq))).at2 (fun h=>by rw [h]at hi1;simp at hi1)
      cases hAe
      obtain⟨e0,e1,e2,e3,e4,e5,hva,g0,g1,g2,g3,g4,g5⟩:=hat i hi1
      have hleaf:=(H.out.all _ (List.getElem_mem hi1)).2.1
      have hD:elemsD code (ks.take (i+1))=elemsD code (ks.take i)++(pick1 code (pcs ks[i])).getD []:=by rw [←List.take_append_getElem hi1,elemsD_snoc]
      have hA:elemsA code (ks.take (i+1))=(elemsA code (ks.take i)&&(pick1 code (pcs ks[i])).isSome):=by rw [←List.take_append_getElem hi1,elemsA_snoc]
      clear hat
      obtain⟨v,hv⟩:∃v,v=ks[i]:=⟨_,rfl⟩
      rw [←hv]at hva hleaf hD hA
      clear hv
      obtain⟨Ak,ck,o,Ad,cd,heq,hnum,ho⟩:=hva.parts'
      simp only [Value.agg.injEq,Array.mk.injEq,List.cons.injEq,and_true]at heq
      obtain⟨rfl,rfl,rfl,rfl,rfl,rfl⟩:=heq
      subst ho
      have HC:=Lib.hid (fun w=>pieces_leaf hleaf f Ak none v.kids.length ck 0 0 w)
      have HLF:=Lib.hid hleaf
      have HD:=Lib.hid hD
      have HA:=Lib.hid hA
      clear hleaf hD hA hva hi1
      go_wp2_with fail
      refine(HC.out _).mono ?_
      rintro e w4 ⟨sq,rfl,k4,rowp⟩
      have hsh4:=rowp.shape
      obtain⟨np,hnp⟩:∃np,np=(pcs v).length:=⟨_,rfl⟩
      rw [←hnp]at hsh4
      have HNP:=Lib.hid hnp
      clear hnp
      obtain⟨A4,c4,rfl⟩:=hsh4
      have k04:New w2 w4:=((Keep.refl _ w2).alloc _).trans k4
      obtain⟨B4,hB4⟩:∃B4,B4=w2.heap.size+1:=⟨_,rfl⟩
      obtain⟨S4,hS4⟩:∃S4,S4=w4.heap.size:=⟨_,rfl⟩
      have dp:Dep (fun b=>B4≤b∧b<S4) w4 (fun w=>PM w (pcs v) (.slice A4 np c4)):=rowp.out.mono (fun b hb h=>⟨by rw [hB4];simpa using h,by rw [hS4];exact hb⟩)
      have hown:∀g,(Value.slice A11 n11 c11).ownBlock=some g→¬(B4≤g∧g<S4):=fun g hg h=>by have:=HRQ.out.lt hg;omega
      have hr4:=HRQ.out.keep k04 (fun _ _=>trivial)
      have DP:=Lib.hid dp
      have OW:=Lib.hid hown
      have HR4:=Lib.hid hr4
      have K4:=Lib.hid (kq.trans k04)
      have HS4:=Lib.hid hS4
      have hnp3:np≤3:=by rw [HNP.out];exact(pcs_len HLF.out).2
      clear dp hown hr4 rowp k4 k04 hB4 hS4
      go_wp2_with fail
      go_loopg [11,15,44] np (fun kk s11 s15 s44 wr=>∃(q:Nat) (fb:Bool),q+kk=np∧s44=.int .i64 (q:Int)∧s15=.bool fb∧fb=(pick1 code ((pcs v).take q)).isSome∧New w1 wr∧RowB wr w1.heap.size s11 (elemsD code (ks.take i)++(pick1 code ((pcs v).take q)).getD [])∧Dep (fun b=>B4≤b∧b<S4) wr (fun w=>PM w (pcs v) (.slice A4 np c4))∧(∀g,s11.ownBlock=some g→¬(B4≤g∧g<S4))∧S4≤wr.heap.size)
      case atStart=>exact⟨0,false,by omega,rfl,rfl,rfl,K4.out,by simpa [pick1]using HR4.out,DP.out,OW.out,by rw [HS4.out];exact Nat.le_refl _⟩
      case round=>
       obtain⟨w3,hw3⟩:∃w3,w3=wr:=⟨_,rfl⟩
       subst hw3
       obtain⟨q,fb,hq,rfl,rfl,hfb,k3,hr3,dp3,ow3,hs3⟩:=hrel
       have hsh:=hr3.shape
       obtain⟨n13,hn13⟩:∃n13,n13=(elemsD code (ks.take i)++(pick1 code ((pcs v).take q)).getD []).length:=⟨_,rfl⟩
       rw [←hn13]at hsh
       have HN13:=Lib.hid hn13
       have HFB:=Lib.hid hfb
       clear hn13 hfb
       obtain⟨A13,c13,rfl⟩:=hsh
       have HR3:=Lib.hid hr3
       have DP3:=Lib.hid dp3
       have OW3:=Lib.hid ow3
       clear hr3 dp3 ow3 DP OW HR4 K4
       rcases gk with _ | kk3
       ·obtain rfl:np=q:=by omega
        have hfin:fb=(pick1 code (pcs v)).isSome:=by rw [HFB.out,HNP.out,List.take_length]
        have hrow:RowB w3 w1.heap.size (.slice A13 n13 c13) (elemsD code (ks.take (i+1))):=by
         have:=HR3.out
         rw [HNP.out,List.take_length,←HD.out]at this
         exact this
        have hb':(b&&fb)=(z&&elemsA code (ks.take (i+1))):=by rw [HA.out,hfin,HB.out,Bool.and_assoc]
        have HB':=Lib.hid hb'
        have HR':=Lib.hid hrow
        clear hfin hrow hb'
        cases b
        all_goals
         go_wp2_with fail
         go_roundg kk2
         case measure=>omega
         case rel=>first | exact⟨i+1,false,by omega,congrArg _ (by omega),rfl,by simpa using HB'.out,k3,HR'.out⟩ | exact⟨i+1,fb,by omega,congrArg _ (by omega),rfl,by simpa using HB'.out,k3,HR'.out⟩
       ·have hqn:q<np:=by omega
        have tq:decide (q<np)=true:=by simpa using hqn
        have hq1:q<(pcs v).length:=by rw [←HNP.out];exact hqn
        obtain⟨d4,i4,hAe,-,hat⟩:=DP3.out.here.at (by omega)
        cases hAe
        obtain⟨sp,g0,g1,hsp⟩:=hat q hq1
        have hpl:=pcs_data_len HLF.out (List.getElem_mem hq1)
        have hpk:pick1 code ((pcs v).take (q+1))=(pick1 code ((pcs v).take q)).or (if (pcs v)[q].1==code then some (pcs v)[q].2 else none):=by rw [←List.take_append_getElem hq1,pick1_snoc]
        obtain⟨y,hy⟩:∃y,y=((pcs v)[q].1==code):=⟨_,rfl⟩
        rw [←hy]at hpk
        have hy1:(((pcs v)[q].1.toNat:Int)==(code.toNat:Int))=y:=by rw [hy,code_eq]
        clear hat hy
        obtain⟨pc,hpc⟩:∃pc,pc=(pcs v)[q]:=⟨_,rfl⟩
        rw [←hpc]at g0 hsp hpl hpk hy1
        clear hpc
        obtain⟨As,cs,rfl,hsp2⟩:=hsp
        have kN:=(Keep.refl (fun _=>True) w3).alloc (.cells #[.int .i64 (pc.1.toNat:Int),.slice As pc.2.length cs] 143)
        have dpN:=DP3.out.new kN
        have hszN:S4≤(w3.alloc (.cells #[.int .i64 (pc.1.toNat:Int),.slice As pc.2.length cs] 143)).heap.size:=Nat.le_trans hs3 kN.size
        have k1N:=k3.trans kN
        have HDN:=Lib.hid dpN
        have HPK:=Lib.hid hpk
        have K1N:=Lib.hid k1N
        have HRN:=Lib.hid (HR3.out.keep kN (fun _ _=>trivial))
        have HSP:Hid (SlC w3 (.slice As pc.2.length cs) pc.2):=Lib.hid ⟨As,cs,rfl,hsp2⟩
        have KNh:=Lib.hid kN
        clear dpN hpk k1N hsp2 kN k3
        cases y
        ·go_wp2_with fail
         go_roundg kk3
         case measure=>omega
         case rel=>exact⟨q+1,fb,by omega,congrArg _ (by omega),rfl,by rw [HPK.out];simpa using HFB.out,K1N.out,by rw [HPK.out];simpa using HRN.out,HDN.out,OW3.out,hszN⟩
        ·cases fb
         ·have hnone:pick1 code ((pcs v).take q)=none:=by
           have:=HFB.out
           cases e:pick1 code ((pcs v).take q)with
           | none=>rfl
           | some d=>rw [e]at this;cases this
          have hrn:=HRN.out
          rw [hnone]at hrn
          simp only [Option.getD_none,List.append_nil]at hrn
          obtain⟨sk7,w7,hap,hrow7,k7,hown7⟩:=hrn.appC (HSP.out.keep KNh.out) (by have:=HL.out i;omega) K1N.out.size
          obtain⟨A7,n7,c7,rfl⟩:∃A n c,sk7=.slice A n c:=(let ⟨A,c,e⟩:=hrow7.shape;⟨A,_,c,e⟩)
          have far7:=hrn.far
          have HAP:=Lib.hid hap
          have HR7:=Lib.hid hrow7
          have K7:=Lib.hid (K1N.out.then k7 (fun i hi _=>far7 i hi))
          have D7:=Lib.hid (HDN.out.keep k7 (fun b hb hS e=>OW3.out b e.symm hS))
          have O7:Hid (∀g,(Value.slice A7 n7 c7).ownBlock=some g→¬(B4≤g∧g<S4)):=Lib.hid fun g hg=>by
           rcases hown7 with e | e
           ·exact OW3.out g (by rw [←e];exact hg)
           ·rw [e]at hg
            injection hg with hg
            omega
          have S7:=Nat.le_trans hszN k7.size
          have hpk7:pick1 code ((pcs v).take (q+1))=some pc.2:=by rw [HPK.out,hnone];simp
          have HPK7:=Lib.hid hpk7
          clear hap hrow7 k7 hown7 far7 hrn hnone hpk7
          go_wp2_with (at_builtin;refine wpList_append_eq rfl _ _ 27 rfl _ _ _ _ rfl rfl HAP.out ?_)
          go_roundg kk3
          case measure=>omega
          case rel=>exact⟨q+1,true,by omega,congrArg _ (by omega),rfl,by rw [HPK7.out];rfl,K7.out,by rw [HPK7.out];exact HR7.out,D7.out,O7.out,S7⟩
         ·go_wp2_with fail
          go_roundg kk3
          case measure=>omega
          case rel=>
           obtain⟨dd,hdd⟩:∃d,pick1 code ((pcs v).take q)=some d:=Option.isSome_iff_exists.1 HFB.out.symm
           exact⟨q+1,true,by omega,congrArg _ (by omega),rfl,by rw [HPK.out,hdd];rfl,K1N.out,by rw [HPK.out,hdd];have:=HRN.out;rw [hdd]at this;exact this,HDN.out,OW3.out,hszN⟩
theorem LeafOk.desc{v:V}(h:LeafOk v):v.desc=[]:=by cases h<;>rfl
theorem FormsAt.lt{w:World}{f:Nat}{short:Bool}(h:FormsAt w f short):f<w.heap.size:=let ⟨_,h⟩:=h;lt_blk h
theorem FormsAt.new{w w':World}{f:Nat}{short:Bool}(h:FormsAt w f short)(k:New w w'):FormsAt w' f short:=let ⟨st,h⟩:=h;⟨st,k.blk h trivial⟩
theorem LM.pick{w w':World}{f:Nat}{short:Bool}{l:List V}{s:Value}(h:LM w l s)(hf:FormsAt w f short)(k:Keep (fun b=>b≠f) w w'):LM w' l s:=by
 obtain⟨st,hf⟩:=hf
 exact h.keepN hf (by simp) k
theorem array_is{k:Int}{ks:List V}(h:ArrOk k ks)(hm:ks.length≤1000)(hne:ks≠[])(f:Nat)(short:Bool)(w:World)(s:Value)(hs:LM w ks s)(hf:FormsAt w f short)(o:Int)(A2:Option Addr)(b c2:Nat):
 Calls Tryz.prog 84 #[.pointer (some ⟨f,0,none⟩),.agg #[.int .i64 23,.int .u64 0,.string ⟨#[]⟩,s,.int .i64 o,.slice A2 b c2]] w fun e w'=>∃sl code data,e=.returned sl∧Keep (fun b=>b≠f) w w'∧FormsAt w' f short∧RowG 143 2 Pcs w' w.heap.size sl (lngc 224 240 (code::data) ks.length)∧EncA ks code data∧data.length≤131084000:=by
 obtain⟨A,c,rfl,-,-⟩:=hs.shape
 obtain⟨n,hn⟩:∃n,n=ks.length:=⟨_,rfl⟩
 have hn0:0<n:=by rw [hn];exact List.length_pos_iff.2 hne
 rw [←hn]at hs hm ⊢
 have M1:=Lib.hid hn
 have kb:=(Keep.refl (fun _=>True) w).alloc (.cells #[.int .i64 23,.int .u64 0,.string ⟨#[]⟩,.slice A n c,.int .i64 o,.slice A2 b c2] 78)
 have hs1:=hs.keep kb
 have hfl:=hf.lt
 have HB1:=Lib.hid (blk_new w (.cells #[.int .i64 23,.int .u64 0,.string ⟨#[]⟩,.slice A n c,.int .i64 o,.slice A2 b c2] 78))
 have q3:=(blk_cell (blk_new w (.cells #[.int .i64 23,.int .u64 0,.string ⟨#[]⟩,.slice A n c,.int .i64 o,.slice A2 b c2] 78)) 3).trans rfl
 have q4:=(blk_cell (blk_new w (.cells #[.int .i64 23,.int .u64 0,.string ⟨#[]⟩,.slice A n c,.int .i64 o,.slice A2 b c2] 78)) 4).trans rfl
 have hf1:=hf.new kb
 obtain⟨d2,i2,hAe,-,-,-,hat⟩:=hs1.at2 hne
 cases hAe
 have h0:0<ks.length:=by rw [←hn];exact hn0
 obtain⟨e0,e1,e2,e3,e4,e5,hva,g0,-⟩:=hat 0 h0
 obtain⟨Ak,ck,o',Ad,cd,heq,-,-⟩:=hva.parts'
 simp only [Value.agg.injEq,Array.mk.injEq,List.cons.injEq,and_true]at heq
 obtain⟨rfl,rfl,rfl,rfl,rfl,rfl⟩:=heq
 rw [(h.all _ (List.getElem_mem h0)).1]at g0
 simp only [Nat.zero_mul,Nat.add_zero]at g0
 have tn:decide (0<n)=true:=by simpa using hn0
 have HE:=Lib.hid (elements_is h (by rw [←hn];exact hm) (.pointer (some ⟨f,0,none⟩)) _ _ hs1)
 have H:=Lib.hid h
 have HS:=Lib.hid hs1
 have HF:=Lib.hid hf1
 clear hat hs hf hs1 hf1 hva h hn
 go_enter Tryz.func84,Tryz.ntmps84
 go_wp2_with fail
 refine HE.out.mono ?_
 rintro e w1 ⟨sl,rfl,k1,row⟩
 have hsh:=row.shape
 obtain⟨np,hnp⟩:∃np,np=(mayOf [shortC k,longC k] ks).length:=⟨_,rfl⟩
 rw [←hnp]at hsh
 obtain⟨A4,c4,rfl⟩:=hsh
 have hnp1:1≤np∧np≤2:=by rw [hnp];exact mayOf_some H.out
 have HNP:=Lib.hid hnp
 have hf1:=HF.out.new k1
 have HPK:=Lib.hid (pick_is f np hnp1.1 (by omega) short w1 hf1)
 have HF1:=Lib.hid hf1
 have ROW:=Lib.hid row
 clear hnp hf1 row
 go_wp2_with fail
 refine HPK.out.mono ?_
 rintro e w2 ⟨j,rfl,hj,k2,hf2⟩
 have hfw:f<w.heap.size:=hfl
 have hjp:j<(mayOf [shortC k,longC k] ks).length:=by rw [←HNP.out];exact hj
 have hpm:=(ROW.out.out.keep (φ:=fun w=>PM w (mayOf [shortC k,longC k] ks) (.slice A4 np c4)) k2 (fun b _ hb=>by have:=kb.size;show b≠f;omega)).here
 obtain⟨d4,i4,hAe,-,hat4⟩:=hpm.at (by omega)
 cases hAe
 obtain⟨sp,y0,y1,hsp⟩:=hat4 j hjp
 have henc:=mayOf_enc H.out (List.getElem_mem hjp)
 have hmem:=mayOf_mem (List.getElem_mem hjp)
 obtain⟨pc,hpc⟩:∃pc,pc=(mayOf [shortC k,longC k] ks)[j]:=⟨_,rfl⟩
 rw [←hpc]at y0 hsp henc hmem
 clear hpc hat4 hpm hjp
 have hlen:pc.2.length≤131084000:=by
  have h1:=elems_is pc.1 ks
  rw [hmem.2.2]at h1
  split at h1
  ·injection h1 with h1
   rw [h1]
   have h2:=elemsD_len (code:=pc.1) (l:=ks) fun u hu=>(H.out.all u hu).2.1
   have h3:=leafs_wt (l:=ks) fun u hu=>(H.out.all u hu).2.1
   have h4:=M1.out
   omega
  ·cases h1
 clear hmem
 have HSP:=Lib.hid hsp
 obtain⟨As,cs,hse,-⟩:=hsp
 subst hse
 have tj:decide (j<np)=true:=by simpa using hj
 have kw2:Keep (fun b=>b≠f) w w2:=(New.keep (kb.trans k1) _).trans k2
 have kA:=(Keep.refl (fun _=>True) w2).alloc (.cells #[.int .i64 (pc.1.toNat:Int),.slice As pc.2.length cs] 143)
 have kB:=kA.alloc (.cells #[.int .u8 (pc.1.toNat:Int)] 5)
 have hrb:=RowB.made (X:=w2.alloc (.cells #[.int .i64 (pc.1.toNat:Int),.slice As pc.2.length cs] 143)) (base:=w2.heap.size) (by simp) [pc.1] (by simp)
 obtain⟨sk5,w5,hap,hrow5,k5,-⟩:=hrb.appC (HSP.out.keep kB) (by simp;omega) kB.size
 simp only [World.size_alloc]at hap
 have far5:=hrb.far
 have k25:New w2 w5:=kB.then k5 (fun i hi _=>far5 i hi)
 obtain⟨A5,n5,c5,rfl⟩:∃A n c,sk5=.slice A n c:=(let ⟨A,c,e⟩:=hrow5.shape;⟨A,_,c,e⟩)
 have hwrap:IntKind.u8.wrap (pc.1.toNat:Int)=(pc.1.toNat:Int):=by
  have:=pc.1.toNat_lt
  rw [IntKind.wrap_u8]
  omega
 have hb2:=k2.blk (k1.blk HB1.out trivial) (show w.heap.size≠f by omega)
 have hb5:=k25.blk hb2 trivial
 have r3:=(blk_cell hb5 3).trans rfl
 have hs5:=((HS.out.keep k1).pick HF1.out k2).keep k25
 obtain⟨d6,i6,hAe,-,-,-,hat6⟩:=hs5.at2 hne
 cases hAe
 obtain⟨e0,e1,e2,e3,e4,e5,hva,-,-,-,-,-,x5⟩:=hat6 0 h0
 obtain⟨Ak',ck',o'',Ad',cd',heq,-,-⟩:=hva.parts'
 simp only [Value.agg.injEq,Array.mk.injEq,List.cons.injEq,and_true]at heq
 obtain⟨rfl,rfl,rfl,rfl,rfl,rfl⟩:=heq
 rw [(H.out.all _ (List.getElem_mem h0)).2.1.desc]at x5
 simp only [Nat.zero_mul,Nat.add_zero,List.length_nil]at x5
 have HL:=Lib.hid (lengthed_n 224 240 (.slice A5 n5 c5) (pc.1::pc.2) n hm w5 hrow5.out.here.toC (by simp;omega))
 have HAP:=Lib.hid hap
 have HF2:=Lib.hid hf2
 have K25:=Lib.hid k25
 have ENC:=Lib.hid henc
 clear hap hrow5 k5 hrb far5 kA kB k25 hb2 hb5 hs5 hat6 hva hf2 henc
 go_wp2_with (at_builtin;refine wpList_append_eq rfl _ _ 27 rfl _ _ _ _ rfl rfl HAP.out ?_)
 refine HL.out.mono ?_
 rintro e w6 ⟨sl6,rfl,k6,row6⟩
 have kw:=kw2.trans (New.keep (K25.out.trans k6) _)
 have HR6:=Lib.hid (row6.mono (Nat.le_trans kw2.size K25.out.size))
 have F6:=Lib.hid ((HF2.out.new K25.out).new k6)
 go_wp2
 go_ret
 exact⟨_,pc.1,pc.2,rfl,kw,F6.out,HR6.out.mono (Nat.le_refl _),ENC.out,hlen⟩
def PutOK(v:V):Prop:=∀(w:World) (x:Value) (f:Nat) (short:Bool),VM w v x→FormsAt w f short→
 Calls Tryz.prog 35 #[x,.pointer (some ⟨f,0,none⟩)] w fun e w'=>∃sl b,e=.returned sl∧EncW [v] b∧Keep (fun b=>b≠f) w w'∧FormsAt w' f short∧RowB w' w.heap.size sl b
theorem pieces_22{kids:List V}(hput:∀v∈kids,PutOK v)(hw:wts kids≤900000000)(hm:kids.length≤1000)(f:Nat)(short:Bool)(w:World)(s:Value)(hs:LM w kids s)(hf:FormsAt w f short)(o:Int)(A2:Option Addr)(b c2:Nat):
 Calls Tryz.prog 62 #[.pointer (some ⟨f,0,none⟩),.agg #[.int .i64 22,.int .u64 0,.string ⟨#[]⟩,s,.int .i64 o,.slice A2 b c2]] w fun e w'=>∃sl body,e=.returned sl∧Keep (fun b=>b≠f) w w'∧FormsAt w' f short∧EncW kids body∧RowG 143 2 Pcs w' w.heap.size sl (lngc 193 209 body kids.length):=by
 obtain⟨A,c,rfl,-,-⟩:=hs.shape
 obtain⟨n,hn⟩:∃n,n=kids.length:=⟨_,rfl⟩
 rw [←hn]at hs hm ⊢
 have M1:=Lib.hid hn
 have hfl:=hf.lt
 have kb:=(Keep.refl (fun b=>b≠f) w).alloc (.cells #[.int .i64 22,.int .u64 0,.string ⟨#[]⟩,.slice A n c,.int .i64 o,.slice A2 b c2] 78)
 have hbx:=blk_new w (.cells #[.int .i64 22,.int .u64 0,.string ⟨#[]⟩,.slice A n c,.int .i64 o,.slice A2 b c2] 78)
 have q3:=(blk_cell hbx 3).trans rfl
 have HBX:=Lib.hid hbx
 have HS:=Lib.hid hs
 have HF:=Lib.hid hf
 have HP:=Lib.hid hput
 have HF1:=Lib.hid (hf.new ((Keep.refl _ w).alloc (.cells #[.int .i64 22,.int .u64 0,.string ⟨#[]⟩,.slice A n c,.int .i64 o,.slice A2 b c2] 78)))
 clear hn hs hf hbx hput
 go_enter Tryz.func62,Tryz.ntmps62
 go_wp2_with fail
 go_loopg [5,63] n (fun kk s5 s63 wr=>∃(j:Nat) (data:List UInt8),j+kk=n∧s63=.int .i64 (j:Int)∧Keep (fun b=>b≠f) w wr∧FormsAt wr f short∧RowB wr (w.heap.size+1) s5 data∧EncW (kids.take j) data∧wr.heap[w.heap.size]? =some (.cells #[.int .i64 22,.int .u64 0,.string ⟨#[]⟩,.slice A n c,.int .i64 o,.slice A2 b c2] 78 (0,0)))
 case atStart=>exact⟨0,[],by omega,rfl,kb,HF1.out,RowB.nil,EncW.nil,HBX.out⟩
 case round=>
  obtain⟨j,data,hj,rfl,kr,hfr,hrow,henc,hbr⟩:=hrel
  have hsh:=hrow.shape
  obtain⟨n5,hn5⟩:∃n5,n5=data.length:=⟨_,rfl⟩
  rw [←hn5]at hsh
  obtain⟨A5,c5,rfl⟩:=hsh
  have hdl:data.length≤900000000:=by
   have h1:=henc.short
   have h2:=wts_take kids j
   omega
  have b0:=(blk_cell hbr 0).trans rfl
  have b3:=(blk_cell hbr 3).trans rfl
  have HROW:=Lib.hid hrow
  have HENC:=Lib.hid henc
  have HBR:=Lib.hid hbr
  have HFR:=Lib.hid hfr
  have HN5:=Lib.hid hn5
  clear hrow henc hbr hfr hn5
  rcases gk with _ | kk
  ·obtain rfl:n=j:=by omega
   have henc2:EncW kids data:=by have:=HENC.out;rwa [M1.out,List.take_length]at this
   have HE2:=Lib.hid henc2
   have HL:=Lib.hid (fun (c8 c32:UInt8)=>lengthed_n c8 c32 (.slice A5 n5 c5) data n hm wr HROW.out.out.here.toC (by omega))
   clear henc2
   go_wp2_with fail
   refine(HL.out 193 209).mono ?_
   rintro e w6 ⟨sl6,rfl,k6,row6⟩
   have HR6:=Lib.hid (row6.mono kr.size)
   have F6:=Lib.hid (HFR.out.new k6)
   have K6:=Lib.hid (kr.trans (New.keep k6 _))
   go_wp2
   go_ret
   exact⟨_,data,rfl,K6.out,F6.out,HE2.out,HR6.out⟩
  ·have hjn:j<n:=by omega
   have tj:decide (j<n)=true:=by simpa using hjn
   have hj1:j<kids.length:=by rw [←M1.out];exact hjn
   obtain⟨d2,i2,hAe,-,-,-,hat⟩:=(HS.out.pick HF.out kr).at2 (fun h=>by rw [h]at hj1;simp at hj1)
   cases hAe
   obtain⟨e0,e1,e2,e3,e4,e5,hva,g0,g1,g2,g3,g4,g5⟩:=hat j hj1
   obtain⟨v,hv⟩:∃v,v=kids[j]:=⟨_,rfl⟩
   have htk:kids.take (j+1)=kids.take j++[kids[j]]:=(List.take_append_getElem hj1).symm
   have hpv:=HP.out kids[j] (List.getElem_mem hj1)
   rw [←hv]at hva htk hpv
   clear hv
   have hva2:=hva
   obtain⟨Ak,ck,o',Ad,cd,heq,-,-⟩:=hva.parts'
   simp only [Value.agg.injEq,Array.mk.injEq,List.cons.injEq,and_true]at heq
   obtain⟨rfl,rfl,rfl,rfl,rfl,rfl⟩:=heq
   have kN:=(Keep.refl (fun _=>True) wr).alloc (.cells #[.int .i64 v.kind,.int .u64 (v.num:Int),.string ⟨v.text.toArray⟩,.slice Ak v.kids.length ck,.int .i64 o',.slice Ad v.desc.length cd] 78)
   have HC:=Lib.hid (hpv _ _ f short (hva2.keep kN) (HFR.out.new kN))
   have HTK:=Lib.hid htk
   have KN:=Lib.hid kN
   clear hat hva hva2 htk hpv kN
   go_wp2_with fail
   refine HC.out.mono ?_
   rintro e w4 ⟨sl4,bd,rfl,henc4,k4,hf4,hrow4⟩
   have k04:Keep (fun b=>b≠f) wr w4:=(New.keep KN.out _).trans k4
   have hr4:=HROW.out.keep k04 (fun b hb=>by show b≠f;omega)
   have henc5:=HENC.out.append henc4
   rw [←HTK.out]at henc5
   have hbl:bd.length≤900000000:=by
    have h1:=henc5.short
    have h2:=wts_take kids (j+1)
    simp only [List.length_append]at h1
    omega
   have hsz:w.heap.size+1≤wr.heap.size:=lt_blk HBR.out
   obtain⟨sk7,w7,hap,hrow7,k7,-⟩:=hr4.app hrow4.out.here (by omega) (Nat.le_trans hsz k04.size)
   have far7:=hr4.far
   obtain⟨A4,n4,c4,rfl⟩:∃A n c,sl4=.slice A n c:=(let ⟨A,c,e⟩:=hrow4.shape;⟨A,_,c,e⟩)
   obtain⟨A7,n7,c7,rfl⟩:∃A n c,sk7=.slice A n c:=(let ⟨A,c,e⟩:=hrow7.shape;⟨A,_,c,e⟩)
   have K7:=Lib.hid ((kr.trans k04).then k7 (fun i hi _=>far7 i (by omega)))
   have B7:=Lib.hid (k7.blk (k04.blk HBR.out (show w.heap.size≠f by omega)) (far7 _ (by omega)))
   have F7:Hid (FormsAt w7 f short):=Lib.hid (let ⟨st,h⟩:=hf4;⟨st,k7.blk h (far7 _ (by omega))⟩)
   have HAP:=Lib.hid hap
   have HR7:=Lib.hid hrow7
   have HE5:=Lib.hid henc5
   clear hap hrow7 k7 far7 hr4 k04 hrow4 henc4 henc5 hf4 k4
   go_wp2_with (at_builtin;refine wpList_append_eq rfl _ _ 27 rfl _ _ _ _ rfl rfl HAP.out ?_)
   go_roundg kk
   case measure=>omega
   case rel=>exact⟨j+1,data++bd,by omega,congrArg _ (by omega),K7.out,F7.out,HR7.out,HE5.out,B7.out⟩
theorem pieces_21{kids:List V}(hput:∀v∈kids,PutOK v)(hw:wts kids≤900000000)(hm:kids.length≤1000)(f:Nat)(short:Bool)(w:World)(s:Value)(hs:LM w kids s)(hf:FormsAt w f short)(o:Int)(A2:Option Addr)(b c2:Nat):
 Calls Tryz.prog 62 #[.pointer (some ⟨f,0,none⟩),.agg #[.int .i64 21,.int .u64 0,.string ⟨#[]⟩,s,.int .i64 o,.slice A2 b c2]] w fun e w'=>∃sl body,e=.returned sl∧Keep (fun b=>b≠f) w w'∧FormsAt w' f short∧EncW kids body∧RowG 143 2 Pcs w' w.heap.size sl (listP kids body):=by
 obtain⟨A,c,rfl,-,-⟩:=hs.shape
 obtain⟨n,hn⟩:∃n,n=kids.length:=⟨_,rfl⟩
 rw [←hn]at hs hm ⊢
 have M1:=Lib.hid hn
 have hfl:=hf.lt
 have kb:=(Keep.refl (fun b=>b≠f) w).alloc (.cells #[.int .i64 21,.int .u64 0,.string ⟨#[]⟩,.slice A n c,.int .i64 o,.slice A2 b c2] 78)
 have hbx:=blk_new w (.cells #[.int .i64 21,.int .u64 0,.string ⟨#[]⟩,.slice A n c,.int .i64 o,.slice A2 b c2] 78)
 have q3:=(blk_cell hbx 3).trans rfl
 have HBX:=Lib.hid hbx
 have HS:=Lib.hid hs
 have HF:=Lib.hid hf
 have HP:=Lib.hid hput
 have HF1:=Lib.hid (hf.new ((Keep.refl _ w).alloc (.cells #[.int .i64 21,.int .u64 0,.string ⟨#[]⟩,.slice A n c,.int .i64 o,.slice A2 b c2] 78)))
 clear hn hs hf hbx hput
 go_enter Tryz.func62,Tryz.ntmps62
 go_wp2_with fail
 go_loopg [5,63] n (fun kk s5 s63 wr=>∃(j:Nat) (data:List UInt8),j+kk=n∧s63=.int .i64 (j:Int)∧Keep (fun b=>b≠f) w wr∧FormsAt wr f short∧RowB wr (w.heap.size+1) s5 data∧EncW (kids.take j) data∧wr.heap[w.heap.size]? =some (.cells #[.int .i64 21,.int .u64 0,.string ⟨#[]⟩,.slice A n c,.int .i64 o,.slice A2 b c2] 78 (0,0)))
 case atStart=>exact⟨0,[],by omega,rfl,kb,HF1.out,RowB.nil,EncW.nil,HBX.out⟩
 case round=>
  obtain⟨j,data,hj,rfl,kr,hfr,hrow,henc,hbr⟩:=hrel
  have hsh:=hrow.shape
  obtain⟨n5,hn5⟩:∃n5,n5=data.length:=⟨_,rfl⟩
  rw [←hn5]at hsh
  obtain⟨A5,c5,rfl⟩:=hsh
  have hdl:data.length≤900000000:=by
   have h1:=henc.short
   have h2:=wts_take kids j
   omega
  have b0:=(blk_cell hbr 0).trans rfl
  have b3:=(blk_cell hbr 3).trans rfl
  have HROW:=Lib.hid hrow
  have HENC:=Lib.hid henc
  have HBR:=Lib.hid hbr
  have HFR:=Lib.hid hfr
  have HN5:=Lib.hid hn5
  clear hrow henc hbr hfr hn5
  rcases gk with _ | kk
  ·obtain rfl:n=j:=by omega
   have henc2:EncW kids data:=by have:=HENC.out;rwa [M1.out,List.take_length]at this
   have HE2:=Lib.hid henc2
   have HL:=Lib.hid (fun (c8 c32:UInt8)=>lengthed_n c8 c32 (.slice A5 n5 c5) data n hm wr HROW.out.out.here.toC (by omega))
   clear henc2
   go_wp2_with fail
   refine(HL.out 192 208).mono ?_
   rintro e w6 ⟨sl6,rfl,k6,row6⟩
   have row7:=row6.mono kr.size
   have hb6:=k6.blk HBR.out trivial
   have x3:=(blk_cell hb6 3).trans rfl
   have F6:=HFR.out.new k6
   have K6:=kr.trans (New.keep k6 _)
   have hsh6:=row7.shape
   obtain⟨n6,hn6⟩:∃n6,n6=(lngc 192 208 data n).length:=⟨_,rfl⟩
   rw [←hn6]at hsh6
   obtain⟨A6,c6,rfl⟩:=hsh6
   have hl6:=lngc_len 192 208 data n
   have HN6:=Lib.hid hn6
   have HR7:=Lib.hid row7
   have HF6:=Lib.hid F6
   have HK6:=Lib.hid K6
   clear hn6 row6 row7 hb6 F6
   by_cases h0:n=0
   ·have t0:((n:Int)==0)=true:=by simpa using h0
    have hk0:kids=[]:=List.eq_nil_of_length_eq_zero (by rw [←M1.out];exact h0)
    obtain⟨r,w9,hap,k9,row9⟩:=put_front w6 HR7.out (by omega) (by omega) K6.size 69
    have HAP:=Lib.hid hap
    have HR9:=Lib.hid row9
    have HF9:=Lib.hid (HF6.out.new k9)
    have HK9:=Lib.hid (HK6.out.trans (New.keep k9 _))
    clear hap row9 k9
    go_wp2_with (at_builtin;refine wpList_append_eq rfl _ _ 140 rfl _ _ _ _ rfl rfl HAP.out ?_)
    go_ret
    refine⟨_,data,rfl,HK9.out,HF9.out,HE2.out,?_⟩
    have:=HR9.out
    rw [M1.out]at this
    simpa [listP,hk0]using this
   ·have t0:((n:Int)==0)=false:=by simpa using h0
    have hk0:kids≠[]:=fun e=>h0 (by rw [M1.out,e];rfl)
    go_wp2
    go_ret
    refine⟨_,data,rfl,HK6.out,HF6.out,HE2.out,?_⟩
    have:=HR7.out
    rw [M1.out]at this
    simpa [listP,hk0]using this
  ·have hjn:j<n:=by omega
   have tj:decide (j<n)=true:=by simpa using hjn
   have hj1:j<kids.length:=by rw [←M1.out];exact hjn
   obtain⟨d2,i2,hAe,-,-,-,hat⟩:=(HS.out.pick HF.out kr).at2 (fun h=>by rw [h]at hj1;simp at hj1)
   cases hAe
   obtain⟨e0,e1,e2,e3,e4,e5,hva,g0,g1,g2,g3,g4,g5⟩:=hat j hj1
   obtain⟨v,hv⟩:∃v,v=kids[j]:=⟨_,rfl⟩
   have htk:kids.take (j+1)=kids.take j++[kids[j]]:=(List.take_append_getElem hj1).symm
   have hpv:=HP.out kids[j] (List.getElem_mem hj1)
   rw [←hv]at hva htk hpv
   clear hv
   have hva2:=hva
   obtain⟨Ak,ck,o',Ad,cd,heq,-,-⟩:=hva.parts'
   simp only [Value.agg.injEq,Array.mk.injEq,List.cons.injEq,and_true]at heq
   obtain⟨rfl,rfl,rfl,rfl,rfl,rfl⟩:=heq
   have kN:=(Keep.refl (fun _=>True) wr).alloc (.cells #[.int .i64 v.kind,.int .u64 (v.num:Int),.string ⟨v.text.toArray⟩,.slice Ak v.kids.length ck,.int .i64 o',.slice Ad v.desc.length cd] 78)
   have HC:=Lib.hid (hpv _ _ f short (hva2.keep kN) (HFR.out.new kN))
   have HTK:=Lib.hid htk
   have KN:=Lib.hid kN
   clear hat hva hva2 htk hpv kN
   go_wp2_with fail
   refine HC.out.mono ?_
   rintro e w4 ⟨sl4,bd,rfl,henc4,k4,hf4,hrow4⟩
   have k04:Keep (fun b=>b≠f) wr w4:=(New.keep KN.out _).trans k4
   have hr4:=HROW.out.keep k04 (fun b hb=>by show b≠f;omega)
   have henc5:=HENC.out.append henc4
   rw [←HTK.out]at henc5
   have hbl:bd.length≤900000000:=by
    have h1:=henc5.short
    have h2:=wts_take kids (j+1)
    simp only [List.length_append]at h1
    omega
   have hsz:w.heap.size+1≤wr.heap.size:=lt_blk HBR.out
   obtain⟨sk7,w7,hap,hrow7,k7,-⟩:=hr4.app hrow4.out.here (by omega) (Nat.le_trans hsz k04.size)
   have far7:=hr4.far
   obtain⟨A4,n4,c4,rfl⟩:∃A n c,sl4=.slice A n c:=(let ⟨A,c,e⟩:=hrow4.shape;⟨A,_,c,e⟩)
   obtain⟨A7,n7,c7,rfl⟩:∃A n c,sk7=.slice A n c:=(let ⟨A,c,e⟩:=hrow7.shape;⟨A,_,c,e⟩)
   have K7:=Lib.hid ((kr.trans k04).then k7 (fun i hi _=>far7 i (by omega)))
   have B7:=Lib.hid (k7.blk (k04.blk HBR.out (show w.heap.size≠f by omega)) (far7 _ (by omega)))
   have F7:Hid (FormsAt w7 f short):=Lib.hid (let ⟨st,h⟩:=hf4;⟨st,k7.blk h (far7 _ (by omega))⟩)
   have HAP:=Lib.hid hap
   have HR7:=Lib.hid hrow7
   have HE5:=Lib.hid henc5
   clear hap hrow7 k7 far7 hr4 k04 hrow4 henc4 henc5 hf4 k4
   go_wp2_with (at_builtin;refine wpList_append_eq rfl _ _ 27 rfl _ _ _ _ rfl rfl HAP.out ?_)
   go_roundg kk
   case measure=>omega
   case rel=>exact⟨j+1,data++bd,by omega,congrArg _ (by omega),K7.out,F7.out,HR7.out,HE5.out,B7.out⟩
theorem row_piece{w:World}{base:Nat}{A:Option Addr}{m c:Nat}{ps:List (UInt8×List UInt8)}(h:RowG 143 2 Pcs w base (.slice A m c) ps)(j:Nat)(hj:j<ps.length):∃d s,A=some ⟨d,0,none⟩∧m=ps.length∧base≤d∧w.cell? ⟨d,j*2,none⟩=some (.int .i64 (ps[j].1.toNat:Int))∧w.cell? ⟨d,j*2+1,none⟩=some s∧Dep (fun b=>base≤b) w (fun w=>SlC w s ps[j].2):=by
 obtain⟨cells,⟨h1,h2⟩,hd⟩:=h
 obtain⟨s,g0,g1,_⟩:=hd.here.at j hj
 rcases h2 with⟨_,h0⟩ | ⟨g,cap,cur,hv,hg,hb,hn,hc,hs,ht⟩
 ·rw [h0]at hj;simp at hj
 ·injection hv with e1 e2 e3
  have get:∀q u,q<ps.length*2→cells[q]? =some u→w.cell? ⟨g,q,none⟩=some u:=fun q u hq hu=>by
   rw [blk_cell hb,←Array.getElem?_toList,←hu,←ht,List.getElem?_take_of_lt hq]
  refine⟨g,s,e1,e2,hg,get _ _ (by omega) g0,get _ _ (by omega) g1,(hd.mono fun b _ h=>h.1).imp fun w' h'=>?_⟩
  obtain⟨s',_,g1',h3⟩:=h'.at j hj
  rw [g1]at g1'
  injection g1' with e
  rw [e]
  exact h3
theorem VM.descM{w:World}{v:V}{a0 a1 a2 a3 a4 a5:Value}(h:VM w v (.agg #[a0,a1,a2,a3,a4,a5])):LM w v.desc a5:=by
 obtain⟨k,n,t,ks,o,ds⟩:=v
 obtain⟨sk,sd,e,_,_,hd⟩:=h.inv
 simp at e
 obtain⟨_,_,_,_,_,rfl⟩:=e
 exact hd
def PiecesC(v:V)(B:(UInt8×List UInt8)→Prop):Prop:=∀(w:World) (x:Value) (f:Nat) (short:Bool),VM w v x→FormsAt w f short→
 Calls Tryz.prog 62 #[.pointer (some ⟨f,0,none⟩),x] w fun e w'=>∃sl ps,e=.returned sl∧Keep (fun b=>b≠f) w w'∧FormsAt w' f short∧RowG 143 2 Pcs w' w.heap.size sl ps∧1≤ps.length∧ps.length≤4∧∀p∈ps,B p
theorem put_plain{v:V}{B:(UInt8×List UInt8)→Prop}(hB:PiecesC v B)(hw:wt v≤900000000)(hd:v.desc=[])(hE:∀p,B p→EncW [v] (p.1::p.2)):PutOK v:=by
 intro w x f short hx hf
 have hx0:=hx
 obtain⟨Ak,ck,o',Ad,cd,rfl,-,-⟩:=hx.parts'
 rw [hd]at hx0 ⊢
 simp only [List.length_cons,List.length_nil,Nat.zero_add]at hx0 ⊢
 have kb:=(Keep.refl (fun _=>True) w).alloc (.cells #[.int .i64 v.kind,.int .u64 (v.num:Int),.string ⟨v.text.toArray⟩,.slice Ak v.kids.length ck,.int .i64 o',.slice Ad 0 cd] 78)
 have hbx:=blk_new w (.cells #[.int .i64 v.kind,.int .u64 (v.num:Int),.string ⟨v.text.toArray⟩,.slice Ak v.kids.length ck,.int .i64 o',.slice Ad 0 cd] 78)
 have q0:=(blk_cell hbx 0).trans rfl
 have q1:=(blk_cell hbx 1).trans rfl
 have q2:=(blk_cell hbx 2).trans rfl
 have q3:=(blk_cell hbx 3).trans rfl
 have q4:=(blk_cell hbx 4).trans rfl
 have q5:=(blk_cell hbx 5).trans rfl
 have hfl:=hf.lt
 have hf1:=hf.new kb
 have HC:=Lib.hid (hB _ _ f short (hx0.keep kb) hf1)
 have HBX:=Lib.hid hbx
 clear hx hx0 hf hf1 hbx hB
 go_enter Tryz.func35,Tryz.ntmps35
 go_wp2_with fail
 refine HC.out.mono ?_
 rintro e w1 ⟨sl,ps,rfl,k1,hf1,row,hp1,hp4,hBp⟩
 have kw1:Keep (fun b=>b≠f) w w1:=(New.keep kb _).trans k1
 have hsz1:w.heap.size+1≤w1.heap.size:=by have:=k1.size;simp at this;omega
 have hr5:RowB w1 (w.heap.size+1) (.slice none 0 0) []:=RowB.nil
 obtain⟨B62,hB62'⟩:∃B,B=(w.alloc (.cells #[.int .i64 v.kind,.int .u64 (v.num:Int),.string ⟨v.text.toArray⟩,.slice Ak v.kids.length ck,.int .i64 o',.slice Ad 0 cd] 78)).heap.size:=⟨_,rfl⟩
 rw [←hB62']at row
 have hB62:w.heap.size+1≤B62:=by rw [hB62'];simp
 have hB1:B62≤w1.heap.size:=by rw [hB62'];exact k1.size
 have HOWN:Hid (∀b,B62≤b→some b≠(Value.slice none 0 0).ownBlock):=Lib.hid fun b _ e=>by cases e
 obtain⟨pre,hpre⟩:∃pre:List UInt8,pre=[]:=⟨_,rfl⟩
 have hpl:pre.length≤900000001:=by rw [hpre];simp
 rw [←hpre]at hr5
 have hfin:∀p,B p→EncW [v] (pre++(p.1::p.2)):=fun p hp=>by rw [hpre];exact hE p hp
 have hsh:=row.shape
 obtain⟨np,hnp⟩:∃np,np=ps.length:=⟨_,rfl⟩
 rw [←hnp]at hsh hp1 hp4
 obtain⟨A4,c4,rfl⟩:=hsh
 have HNP:=Lib.hid hnp
 have HPK:=Lib.hid (pick_is f np hp1 (by omega) short w1 hf1)
 have ROW:=Lib.hid row
 have HBP:=Lib.hid hBp
 have HFIN:=Lib.hid hfin
 have HR5:=Lib.hid hr5
 clear hnp hpre hf1 row hBp hfin hr5 hE
 go_wp2_with fail
 refine HPK.out.mono ?_
 rintro e w2 ⟨j,rfl,hj,k2,hf2⟩
 have hjp:j<ps.length:=by rw [←HNP.out];exact hj
 obtain⟨d4,sp,hAe,-,hd4,y0,y1,hsp⟩:=row_piece ROW.out j hjp
 cases hAe
 have hb62:w.heap.size+1≤B62:=hB62
 replace y0:=k2.cell y0 (show d4≠f by omega)
 replace y1:=k2.cell y1 (show d4≠f by omega)
 replace hsp:=hsp.keep k2 (fun b _ hb=>by show b≠f;omega)
 have hbp:=HBP.out _ (List.getElem_mem hjp)
 obtain⟨pc,hpc⟩:∃pc,pc=ps[j]:=⟨_,rfl⟩
 rw [←hpc]at y0 hsp hbp
 clear hpc
 have henc:=HFIN.out pc hbp
 have hlen:pc.2.length≤900000000:=by
  have h1:=henc.short
  simp only [wts,List.length_append,List.length_cons]at h1
  omega
 have HSP:=Lib.hid hsp
 obtain⟨As,cs,hse,-⟩:=hsp.here
 subst hse
 have tj:decide (j<np)=true:=by simpa using hj
 have kw2:Keep (fun b=>b≠f) w w2:=kw1.trans k2
 have kA:=((Keep.refl (fun _=>True) w2).alloc (.cells #[.int .i64 (pc.1.toNat:Int),.slice As pc.2.length cs] 143)).drew
 have kB:=kA.alloc (.cells #[.int .u8 (pc.1.toNat:Int)] 5)
 have hwrap:IntKind.u8.wrap (pc.1.toNat:Int)=(pc.1.toNat:Int):=by
  have:=pc.1.toNat_lt
  rw [IntKind.wrap_u8]
  omega
 have hr52:=(HR5.out.keep k2 (fun b hb=>by show b≠f;omega)).keep kB (fun _ _=>trivial)
 obtain⟨sk6,w6,hap6,hrow6,k6,own6⟩:=hr52.app (one_byte (w2.alloc (.cells #[.int .i64 (pc.1.toNat:Int),.slice As pc.2.length cs] 143)).drew pc.1) (by simp;omega) (by have:=k2.size;have:=kB.size;omega)
 have far5:=hr52.far
 have hBw:B62≤w2.heap.size:=Nat.le_trans hB1 k2.size
 have cA1:((w2.alloc (.cells #[.int .i64 (pc.1.toNat:Int),.slice As pc.2.length cs] 143)).drew).cell? ⟨w2.heap.size,1,none⟩=some (.slice As pc.2.length cs):=(blk_cell (blk_new w2 (.cells #[.int .i64 (pc.1.toNat:Int),.slice As pc.2.length cs] 143)) 1).trans rfl
 have c61:=k6.cell (cell_alloc cA1 (.cells #[.int .u8 (pc.1.toNat:Int)] 5)) (HOWN.out _ hBw)
 have hsp6:=((HSP.out.new kB).keep k6 (fun b _ hb=>HOWN.out b hb)).here
 obtain⟨sk7,w7,hap7,hrow7,k7,own7⟩:=hrow6.appC hsp6 (by simp;omega) (by have:=k2.size;have:=kB.size;have:=k6.size;omega)
 have far6:=hrow6.far
 obtain⟨A6,n6,c6,rfl⟩:∃A n c,sk6=.slice A n c:=(let ⟨A,c,e⟩:=hrow6.shape;⟨A,_,c,e⟩)
 have KW:=Lib.hid (((kw2.trans (New.keep kB _)).then k6 (fun i hi _=>far5 i (by omega))).then k7 (fun i hi _=>far6 i (by omega)))
 have F7:Hid (FormsAt w7 f short):=Lib.hid (let ⟨st,h⟩:=hf2;⟨st,k7.blk (k6.blk (kB.blk h trivial) (far5 _ (by omega))) (far6 _ (by omega))⟩)
 have R7:=Lib.hid (show RowB w7 w.heap.size sk7 (pre++(pc.1::pc.2)) by have:=hrow7.mono (Nat.le_succ w.heap.size);rwa [List.append_assoc,List.singleton_append]at this)
 have ENC:=Lib.hid henc
 simp only [World.size_alloc,World.size_drew]at hap6
 clear HPK HFIN HBP hrow6 hrow7 k6 k7 own6 own7 far5 far6 kA kB hr52 hsp hsp6 henc hbp hf2
 go_wp2_with fail
 go_region_law (first
  | (refine at_dst 35 (by rfl) ?_;refine step_append_eq hap6 (by rfl) _ _ (by rfl) (by rfl) (by rfl) ?_)
  | (refine at_dst 38 (by rfl) ?_;refine step_append_eq hap7 (by rfl) _ _ (by rfl) (by rfl) (by rfl) ?_))
 all_goals
  go_wp2
  go_ret
  exact⟨_,_,rfl,ENC.out,KW.out,F7.out,R7.out⟩
theorem put_desc{v:V}{B:(UInt8×List UInt8)→Prop}(hB:PiecesC v B)(hw:wt v≤900000000){d:V}(hd:v.desc=[d])(hP:PutOK d)(hE:∀p bd,B p→EncW [d] bd→EncW [v] (0::(bd++(p.1::p.2)))):PutOK v:=by
 intro w x f short hx hf
 have hx0:=hx
 obtain⟨Ak,ck,o',Ad,cd,rfl,-,-⟩:=hx.parts'
 rw [hd]at hx0 ⊢
 simp only [List.length_cons,List.length_nil,Nat.zero_add]at hx0 ⊢
 have kb:=(Keep.refl (fun _=>True) w).alloc (.cells #[.int .i64 v.kind,.int .u64 (v.num:Int),.string ⟨v.text.toArray⟩,.slice Ak v.kids.length ck,.int .i64 o',.slice Ad 1 cd] 78)
 have hbx:=blk_new w (.cells #[.int .i64 v.kind,.int .u64 (v.num:Int),.string ⟨v.text.toArray⟩,.slice Ak v.kids.length ck,.int .i64 o',.slice Ad 1 cd] 78)
 have q0:=(blk_cell hbx 0).trans rfl
 have q1:=(blk_cell hbx 1).trans rfl
 have q2:=(blk_cell hbx 2).trans rfl
 have q3:=(blk_cell hbx 3).trans rfl
 have q4:=(blk_cell hbx 4).trans rfl
 have q5:=(blk_cell hbx 5).trans rfl
 have hfl:=hf.lt
 have hf1:=hf.new kb
 have hdm:=hx0.descM
 rw [hd]at hdm
 have kb2:=kb.alloc (.cells #[.int .u8 0] 5)
 obtain⟨d3,i3,hAe,-,-,-,hat⟩:=(hdm.keep kb2).at2 (by simp)
 cases hAe
 obtain⟨e0,e1,e2,e3,e4,e5,hva,g0,g1,g2,g3,g4,g5⟩:=hat 0 (by simp)
 simp only [List.getElem_cons_zero,Nat.zero_mul,Nat.add_zero]at hva g0 g1 g2 g3 g4 g5
 have HC1:=Lib.hid (hP _ _ f short hva (hf.new kb2))
 have HBX:=Lib.hid hbx
 have HX0:=Lib.hid hx0
 have HFW:=Lib.hid hf
 have HB:=Lib.hid hB
 have HR0:=Lib.hid (RowB.made (X:=w.alloc (.cells #[.int .i64 v.kind,.int .u64 (v.num:Int),.string ⟨v.text.toArray⟩,.slice Ak v.kids.length ck,.int .i64 o',.slice (some ⟨d3,i3,none⟩) 1 cd] 78)) (base:=w.heap.size+1) (by simp) [0] (by simp))
 clear hx hx0 hf hf1 hbx hB hat hva hdm
 go_enter Tryz.func35,Tryz.ntmps35
 go_wp2_with fail
 refine HC1.out.mono ?_
 rintro e w0 ⟨sd,bd,rfl,hencd,k0,hf0,rowd⟩
 have kw0:Keep (fun b=>b≠f) w w0:=(New.keep kb2 _).trans k0
 have hsz0:w.heap.size+2≤w0.heap.size:=by have:=k0.size;simp at this;omega
 have hr0:=HR0.out.keep k0 (fun b hb=>by show b≠f;omega)
 have hbdl:bd.length≤900000000:=by
  have h1:=hencd.short
  have h2:wts [d]≤wt v:=by
   obtain⟨k,n,t,ks,o,ds⟩:=v
   simp only [V.desc]at hd
   subst hd
   simp only [wt]
   omega
  omega
 obtain⟨sk1,w01,hap1,hrow1,k01,-⟩:=hr0.app rowd.out.here (by simp;omega) (by omega)
 simp only [World.size_alloc]at hap1
 have far0:=hr0.far
 obtain⟨As1,ns1,cs1,rfl⟩:∃A n c,sd=.slice A n c:=(let ⟨A,c,e⟩:=rowd.shape;⟨A,_,c,e⟩)
 obtain⟨A1,n1,c1,rfl⟩:∃A n c,sk1=.slice A n c:=(let ⟨A,c,e⟩:=hrow1.shape;⟨A,_,c,e⟩)
 have kw01:Keep (fun b=>b≠f) w w01:=kw0.then k01 (fun i hi _=>far0 i (by omega))
 have hf01:FormsAt w01 f short:=(let ⟨st,h⟩:=hf0;⟨st,k01.blk h (far0 _ (by omega))⟩)
 have hb01:=k01.blk (k0.blk (blk_alloc HBX.out (.cells #[.int .u8 0] 5)) (show w.heap.size≠f by omega)) (far0 _ (by omega))
 have r0:=(blk_cell hb01 0).trans rfl
 have r1:=(blk_cell hb01 1).trans rfl
 have r2:=(blk_cell hb01 2).trans rfl
 have r3:=(blk_cell hb01 3).trans rfl
 have r4:=(blk_cell hb01 4).trans rfl
 have r5:=(blk_cell hb01 5).trans rfl
 have HC:=Lib.hid (HB.out _ _ f short (let ⟨st,h⟩:=HFW.out;HX0.out.keepN h (by simp) kw01) hf01)
 have HAP1:=Lib.hid hap1
 have HR1:=Lib.hid hrow1
 have HEN:=Lib.hid hencd
 have hs01:w.heap.size+2≤w01.heap.size:=Nat.le_trans hsz0 k01.size
 clear hap1 hrow1 hencd hf01 hb01 k01 far0 hr0 rowd k0 hf0
 go_wp2_with (at_builtin;refine wpList_append_eq rfl _ _ 27 rfl _ _ _ _ rfl rfl HAP1.out ?_)
 refine HC.out.mono ?_
 rintro e w1 ⟨sl,ps,rfl,k1,hf1,row,hp1,hp4,hBp⟩
 have kw1:Keep (fun b=>b≠f) w w1:=kw01.trans k1
 have hsz1:w.heap.size+1≤w1.heap.size:=by have:=k1.size;omega
 have hr5:RowB w1 (w.heap.size+1) (.slice A1 n1 c1) ([0]++bd):=HR1.out.keep k1 (fun b hb=>by show b≠f;omega)
 obtain⟨B62,hB62'⟩:∃B,B=w01.heap.size:=⟨_,rfl⟩
 rw [←hB62']at row
 have hB62:w.heap.size+1≤B62:=by omega
 have hB1:B62≤w1.heap.size:=by rw [hB62'];exact k1.size
 have HOWN:Hid (∀b,B62≤b→some b≠(Value.slice A1 n1 c1).ownBlock):=Lib.hid fun b hb e=>by have:=HR1.out.lt e.symm;omega
 obtain⟨pre,hpre⟩:∃pre:List UInt8,pre=[0]++bd:=⟨_,rfl⟩
 have hpl:pre.length≤900000001:=by rw [hpre];simp;omega
 rw [←hpre]at hr5
 have hfin:∀p,B p→EncW [v] (pre++(p.1::p.2)):=fun p hp=>by rw [hpre];exact hE p bd hp HEN.out
 have hsh:=row.shape
 obtain⟨np,hnp⟩:∃np,np=ps.length:=⟨_,rfl⟩
 rw [←hnp]at hsh hp1 hp4
 obtain⟨A4,c4,rfl⟩:=hsh
 have HNP:=Lib.hid hnp
 have HPK:=Lib.hid (pick_is f np hp1 (by omega) short w1 hf1)
 have ROW:=Lib.hid row
 have HBP:=Lib.hid hBp
 have HFIN:=Lib.hid hfin
 have HR5:=Lib.hid hr5
 clear hnp hpre hf1 row hBp hfin hr5 hE
 go_wp2_with fail
 refine HPK.out.mono ?_
 rintro e w2 ⟨j,rfl,hj,k2,hf2⟩
 have hjp:j<ps.length:=by rw [←HNP.out];exact hj
 obtain⟨d4,sp,hAe,-,hd4,y0,y1,hsp⟩:=row_piece ROW.out j hjp
 cases hAe
 have hb62:w.heap.size+1≤B62:=hB62
 replace y0:=k2.cell y0 (show d4≠f by omega)
 replace y1:=k2.cell y1 (show d4≠f by omega)
 replace hsp:=hsp.keep k2 (fun b _ hb=>by show b≠f;omega)
 have hbp:=HBP.out _ (List.getElem_mem hjp)
 obtain⟨pc,hpc⟩:∃pc,pc=ps[j]:=⟨_,rfl⟩
 rw [←hpc]at y0 hsp hbp
 clear hpc
 have henc:=HFIN.out pc hbp
 have hlen:pc.2.length≤900000000:=by
  have h1:=henc.short
  simp only [wts,List.length_append,List.length_cons]at h1
  omega
 have HSP:=Lib.hid hsp
 obtain⟨As,cs,hse,-⟩:=hsp.here
 subst hse
 have tj:decide (j<np)=true:=by simpa using hj
 have kw2:Keep (fun b=>b≠f) w w2:=kw1.trans k2
 have kA:=((Keep.refl (fun _=>True) w2).alloc (.cells #[.int .i64 (pc.1.toNat:Int),.slice As pc.2.length cs] 143)).drew
 have kB:=kA.alloc (.cells #[.int .u8 (pc.1.toNat:Int)] 5)
 have hwrap:IntKind.u8.wrap (pc.1.toNat:Int)=(pc.1.toNat:Int):=by
  have:=pc.1.toNat_lt
  rw [IntKind.wrap_u8]
  omega
 have hr52:=(HR5.out.keep k2 (fun b hb=>by show b≠f;omega)).keep kB (fun _ _=>trivial)
 obtain⟨sk6,w6,hap6,hrow6,k6,own6⟩:=hr52.app (one_byte (w2.alloc (.cells #[.int .i64 (pc.1.toNat:Int),.slice As pc.2.length cs] 143)).drew pc.1) (by simp;omega) (by have:=k2.size;have:=kB.size;omega)
 have far5:=hr52.far
 have hBw:B62≤w2.heap.size:=Nat.le_trans hB1 k2.size
 have cA1:((w2.alloc (.cells #[.int .i64 (pc.1.toNat:Int),.slice As pc.2.length cs] 143)).drew).cell? ⟨w2.heap.size,1,none⟩=some (.slice As pc.2.length cs):=(blk_cell (blk_new w2 (.cells #[.int .i64 (pc.1.toNat:Int),.slice As pc.2.length cs] 143)) 1).trans rfl
 have c61:=k6.cell (cell_alloc cA1 (.cells #[.int .u8 (pc.1.toNat:Int)] 5)) (HOWN.out _ hBw)
 have hsp6:=((HSP.out.new kB).keep k6 (fun b _ hb=>HOWN.out b hb)).here
 obtain⟨sk7,w7,hap7,hrow7,k7,own7⟩:=hrow6.appC hsp6 (by simp;omega) (by have:=k2.size;have:=kB.size;have:=k6.size;omega)
 have far6:=hrow6.far
 obtain⟨A6,n6,c6,rfl⟩:∃A n c,sk6=.slice A n c:=(let ⟨A,c,e⟩:=hrow6.shape;⟨A,_,c,e⟩)
 have KW:=Lib.hid (((kw2.trans (New.keep kB _)).then k6 (fun i hi _=>far5 i (by omega))).then k7 (fun i hi _=>far6 i (by omega)))
 have F7:Hid (FormsAt w7 f short):=Lib.hid (let ⟨st,h⟩:=hf2;⟨st,k7.blk (k6.blk (kB.blk h trivial) (far5 _ (by omega))) (far6 _ (by omega))⟩)
 have R7:=Lib.hid (show RowB w7 w.heap.size sk7 (pre++(pc.1::pc.2)) by have:=hrow7.mono (Nat.le_succ w.heap.size);rwa [List.append_assoc,List.singleton_append]at this)
 have ENC:=Lib.hid henc
 simp only [World.size_alloc,World.size_drew]at hap6
 clear HPK HFIN HBP hrow6 hrow7 k6 k7 own6 own7 far5 far6 kA kB hr52 hsp hsp6 henc hbp hf2
 go_wp2_with fail
 go_region_law (first
  | (refine at_dst 35 (by rfl) ?_;refine step_append_eq hap6 (by rfl) _ _ (by rfl) (by rfl) (by rfl) ?_)
  | (refine at_dst 38 (by rfl) ?_;refine step_append_eq hap7 (by rfl) _ _ (by rfl) (by rfl) (by rfl) ?_))
 all_goals
  go_wp2
  go_ret
  exact⟨_,_,rfl,ENC.out,KW.out,F7.out,R7.out⟩
theorem pieces_23{k:Int}{ks:List V}(h:ArrOk k ks)(hm:ks.length≤1000)(hne:ks≠[])(f:Nat)(short:Bool)(w:World)(s:Value)(hs:LM w ks s)(hf:FormsAt w f short)(o:Int)(A2:Option Addr)(b c2:Nat):
 Calls Tryz.prog 62 #[.pointer (some ⟨f,0,none⟩),.agg #[.int .i64 23,.int .u64 0,.string ⟨#[]⟩,s,.int .i64 o,.slice A2 b c2]] w fun e w'=>∃sl code data,e=.returned sl∧Keep (fun b=>b≠f) w w'∧FormsAt w' f short∧RowG 143 2 Pcs w' w.heap.size sl (lngc 224 240 (code::data) ks.length)∧EncA ks code data∧data.length≤131084000:=by
 obtain⟨A,c,rfl,-,-⟩:=hs.shape
 have kb:=(Keep.refl (fun _=>True) w).alloc (.cells #[.int .i64 23,.int .u64 0,.string ⟨#[]⟩,.slice A ks.length c,.int .i64 o,.slice A2 b c2] 78)
 have H:=Lib.hid (array_is h hm hne f short _ _ (hs.keep kb) (hf.new kb) o A2 b c2)
 have hz:=kb.size
 clear hs hf
 obtain⟨n,hn⟩:∃n,n=ks.length:=⟨_,rfl⟩
 rw [←hn]at H kb hz ⊢
 clear hn
 go_enter Tryz.func62,Tryz.ntmps62
 go_wp2_with fail
 refine H.out.mono ?_
 rintro e w1 ⟨sl,code,data,rfl,k1,hf1,row,henc,hl⟩
 have R:=Lib.hid (row.mono hz)
 go_wp2
 go_ret
 exact⟨_,code,data,rfl,(New.keep kb _).trans k1,hf1,R.out,henc,hl⟩
theorem AbleW.mem{l:List V}(h:AbleW l):∀v∈l,AbleW [v]:=by
 induction h with
 | nil=>intro v hv;simp at hv
 | plain h hs ih=>exact fun v hv=>(List.mem_cons.1 hv).elim (fun e=>e▸.plain h .nil) (ih v)
 | comp hc hk hm hs _ ih=>exact fun v hv=>(List.mem_cons.1 hv).elim (fun e=>e▸.comp hc hk hm .nil) (ih v)
theorem wt_mem{l:List V}{v:V}(h:v∈l):wt v≤wts l:=by
 induction l with
 | nil=>simp at h
 | cons x l ih=>
   rcases List.mem_cons.1 h with rfl | h
   ·simp [wts]
   ·have:=ih h
    simp only [wts]
    omega
theorem cnt_mem{l:List V}{v:V}(h:v∈l):cnt v≤cnts l:=by
 induction l with
 | nil=>simp at h
 | cons x l ih=>
   rcases List.mem_cons.1 h with rfl | h
   ·simp [cnts]
   ·have:=ih h
    simp only [cnts]
    omega
theorem leaf_pieces{v:V}(h:LeafOk v):PiecesC v (fun p=>p∈pcs v):=by
 intro w x f short hx hf
 obtain⟨Ak,ck,o',Ad,cd,rfl,-,ho⟩:=hx.parts'
 subst ho
 refine(pieces_leaf h (.pointer (some ⟨f,0,none⟩)) Ak Ad v.kids.length ck v.desc.length cd w).mono ?_
 rintro e w1 ⟨sl,rfl,k1,row⟩
 obtain⟨h1,h2⟩:=pcs_len h
 exact⟨sl,_,rfl,New.keep k1 _,hf.new k1,row,h1,by omega,fun p hp=>hp⟩
theorem list_pieces{kids ds:List V}{o:Int}(hput:∀v∈kids,PutOK v)(hw:wts kids≤900000000)(hm:kids.length≤1000):PiecesC (.mk 21 0 [] kids o ds) (fun p=>∃body,EncW kids body∧p∈listP kids body):=by
 intro w x f short hx hf
 obtain⟨sk,sd,rfl,-,hk,hd⟩:=hx.inv
 obtain⟨A2,c2,rfl,-⟩:=hd.shape
 refine(pieces_21 hput hw hm f short w sk hk hf o A2 ds.length c2).mono ?_
 rintro e w1 ⟨sl,body,rfl,k1,hf1,henc,row⟩
 have hl:=lngc_len 192 208 body kids.length
 refine⟨sl,_,rfl,k1,hf1,row,?_,?_,fun p hp=>⟨body,henc,hp⟩⟩
 ·unfold listP;rw [List.length_append];omega
 ·unfold listP;rw [List.length_append];split<;>simp<;>omega
theorem map_pieces{kids ds:List V}{o:Int}(hput:∀v∈kids,PutOK v)(hw:wts kids≤900000000)(hm:kids.length≤1000):PiecesC (.mk 22 0 [] kids o ds) (fun p=>∃body,EncW kids body∧p∈lngc 193 209 body kids.length):=by
 intro w x f short hx hf
 obtain⟨sk,sd,rfl,-,hk,hd⟩:=hx.inv
 obtain⟨A2,c2,rfl,-⟩:=hd.shape
 refine(pieces_22 hput hw hm f short w sk hk hf o A2 ds.length c2).mono ?_
 rintro e w1 ⟨sl,body,rfl,k1,hf1,henc,row⟩
 have hl:=lngc_len 193 209 body kids.length
 exact⟨sl,_,rfl,k1,hf1,row,by omega,by omega,fun p hp=>⟨body,henc,hp⟩⟩
theorem arr_pieces{k:Int}{kids ds:List V}{o:Int}(h:ArrOk k kids)(hm:kids.length≤1000)(hne:kids≠[]):PiecesC (.mk 23 0 [] kids o ds) (fun p=>∃code data,EncA kids code data∧data.length≤131084000∧p∈lngc 224 240 (code::data) kids.length):=by
 intro w x f short hx hf
 obtain⟨sk,sd,rfl,-,hk,hd⟩:=hx.inv
 obtain⟨A2,c2,rfl,-⟩:=hd.shape
 refine(pieces_23 h hm hne f short w sk hk hf o A2 ds.length c2).mono ?_
 rintro e w1 ⟨sl,code,data,rfl,k1,hf1,row,henc,hl⟩
 have hl2:=lngc_len 224 240 (code::data) kids.length
 exact⟨sl,_,rfl,k1,hf1,row,by omega,by omega,fun p hp=>⟨code,data,henc,hl,hp⟩⟩
theorem leaf5{c:Nat}{od:Int}{b:List UInt8}(h:EncW [.mk 5 c [] [] od []] b):Leaf (.mk 5 c [] [] od []) b:=by
 obtain⟨l,hl⟩:∃l,l=[V.mk 5 c [] [] od []]:=⟨_,rfl⟩
 rw [←hl]at h
 cases h with
 | nil=>simp at hl
 | comp0 hd hs=>simp at hl
 | comp hd hk hh hm hs=>simp at hl
 | plain h hs=>
   simp only [List.cons.injEq]at hl
   obtain⟨rfl,rfl⟩:=hl
   cases hs
   rw [List.append_nil]
   obtain⟨m,hm⟩:∃m,m=[V.mk 5 c [] [] od []]:=⟨_,rfl⟩
   rw [←hm]at h
   cases h with
   | nil=>simp at hm
   | list0 hs=>simp at hm
   | list hk hh hm' hs=>simp at hm
   | map hk hh hm' ok hs=>simp at hm
   | arr hk hh hm' hne hs=>simp at hm
   | leaf h hs=>
     simp only [List.cons.injEq]at hm
     obtain⟨rfl,rfl⟩:=hm
     cases hs
     rw [List.append_nil]
     exact h
theorem EncV.one{v:V}{b:List UInt8}(h:EncV [v] b):EncW [v] b:=by
 have:=EncW.plain h .nil
 rwa [List.append_nil]at this
theorem put_ok(N:Nat):∀v,cnt v≤N→AbleW [v]→wt v≤900000000→PutOK v:=by
 induction N with
 | zero=>intro v h;obtain⟨k,n,t,ks,o,ds⟩:=v;simp [cnt]at h
 | succ N ih=>
   intro v hN hA hw
   obtain⟨l,hl⟩:∃l,l=[v]:=⟨_,rfl⟩
   rw [←hl]at hA
   have kidsW:∀{k:Int} {n:Nat} {t:List UInt8} {kids ds:List V} {o:Int},v=.mk k n t kids o ds→AbleW kids→(∀u∈kids,PutOK u)∧wts kids≤900000000:=by
    intro k n t kids ds o e hk
    subst e
    simp only [cnt,wt]at hN hw
    exact⟨fun u hu=>ih u (by have:=cnt_mem hu;omega) (hk.mem u hu) (by have:=wt_mem hu;omega),by omega⟩
   cases hA with
   | nil=>simp at hl
   | @plain v' vs' h hs=>
     simp only [List.cons.injEq]at hl
     obtain⟨rfl,rfl⟩:=hl
     obtain⟨m,hm⟩:∃m,m=[v']:=⟨_,rfl⟩
     rw [←hm]at h
     cases h with
     | nil=>simp at hm
     | leaf h hs=>
       simp only [List.cons.injEq]at hm
       obtain⟨rfl,rfl⟩:=hm
       refine put_plain (leaf_pieces h) hw h.desc fun p hp=>EncV.one ?_
       have:=EncV.leaf (pcs_leaf h p hp) .nil
       rwa [List.append_nil]at this
     | list hk hmm hs=>
       simp only [List.cons.injEq]at hm
       obtain⟨rfl,rfl⟩:=hm
       obtain⟨h1,h2⟩:=kidsW rfl hk.toW
       refine put_plain (list_pieces h1 h2 hmm) hw rfl fun p hp=>EncV.one ?_
       obtain⟨body,h3,h4⟩:=hp
       exact listP_enc (h3.toV hk.noDesc) hmm (by have:=h3.short;omega) p h4
     | map hk hmm ok hs=>
       simp only [List.cons.injEq]at hm
       obtain⟨rfl,rfl⟩:=hm
       obtain⟨h1,h2⟩:=kidsW rfl hk.toW
       refine put_plain (map_pieces h1 h2 (by rw [flat2_len];exact hmm)) hw rfl fun p hp=>EncV.one ?_
       obtain⟨body,h3,h4⟩:=hp
       exact mapP_enc (h3.toV hk.noDesc) hmm ok (by have:=h3.short;omega) p h4
     | arr hk hmm hne hs=>
       simp only [List.cons.injEq]at hm
       obtain⟨rfl,rfl⟩:=hm
       refine put_plain (arr_pieces hk hmm hne) hw rfl fun p hp=>EncV.one ?_
       obtain⟨code,data,h3,h4,h5⟩:=hp
       exact arrP_enc h3 hmm hne (by omega) p h5
   | @comp o od c kids vs hc hk hmm hs=>
     simp only [List.cons.injEq]at hl
     obtain⟨rfl,rfl⟩:=hl
     obtain⟨h1,h2⟩:=kidsW rfl hk
     have hd5:PutOK (.mk 5 c [] [] od []):=ih _ (by simp only [cnt,cnts]at hN ⊢;omega) (.plain (.leaf (.u64 _ _ hc) .nil) .nil) (by simp [wt,wts])
     refine put_desc (list_pieces h1 h2 hmm) hw rfl hd5 fun p bd hp hbd=>?_
     obtain⟨body,h3,h4⟩:=hp
     exact compP_enc (leaf5 hbd) h3 hmm (by have:=h3.short;omega) p h4
def Inside(v u:V):Prop:=u=v∨v.kind=23∧v.kids=[u]∧u.kind=20
theorem set6_keep{ok:Nat→Prop}{W w2:World}{p:Nat}(h:Keep ok W w2)(hp:W.heap.size≤p∨¬ok p)(a0 a1 a2 a3 a4 a5:Value):Keep ok W ((((((w2.setCell ⟨p,0,none⟩ a0).setCell ⟨p,1,none⟩ a1).setCell ⟨p,2,none⟩ a2).setCell ⟨p,3,none⟩ a3).setCell ⟨p,4,none⟩ a4).setCell ⟨p,5,none⟩ a5):=
 (((((h.setCell (p:=⟨p,0,none⟩) hp a0).setCell (p:=⟨p,1,none⟩) hp a1).setCell (p:=⟨p,2,none⟩) hp a2).setCell (p:=⟨p,3,none⟩) hp a3).setCell (p:=⟨p,4,none⟩) hp a4).setCell (p:=⟨p,5,none⟩) hp a5
def InsideP(W w:World)(f:Nat)(short:Bool)(v:V)(w':World)(y:Value):Prop:=Keep (fun b=>b≠f) w w'∧FormsAt w' f short∧∃u,Inside v u∧VM W u y
theorem inside_is(v:V)(W w:World)(x:Value)(f:Nat)(short:Bool)(hx:VM W v x)(K0:Keep (fun b=>b≠f) W w)(hfW:FormsAt W f short)(hf:FormsAt w f short):
 Calls Tryz.prog 34 #[.pointer (some ⟨f,0,none⟩),x] w fun e w'=>∃y,e=.returned y∧InsideP W w f short v w' y:=by
 obtain⟨k,n,t,ks,o,ds⟩:=v
 have HX:=Lib.hid hx
 obtain⟨sk,sd,rfl,hn,hk,hd⟩:=hx.inv
 obtain⟨A1,c1,rfl,-⟩:=hk.shape
 obtain⟨A2,c2,rfl,-⟩:=hd.shape
 obtain⟨a,ha⟩:∃a,a=ks.length:=⟨_,rfl⟩
 obtain⟨b,hb⟩:∃b,b=ds.length:=⟨_,rfl⟩
 rw [←ha]at hk HX ⊢
 rw [←hb]at HX ⊢
 have kb:=((Keep.refl (fun _=>True) w).alloc (.cells #[.int .i64 k,.int .u64 (n:Int),.string ⟨t.toArray⟩,.slice A1 a c1,.int .i64 o,.slice A2 b c2] 78)).alloc (.cells #[.int .i64 0,.int .u64 0,.string ⟨#[]⟩,.slice none 0 0,.int .i64 0,.slice none 0 0] 78)
 have hf1:=Lib.hid (hf.new kb)
 have HF0:=Lib.hid hf
 have HFW:=Lib.hid hfW
 have HK0:=Lib.hid K0
 have HK:=Lib.hid hk
 have M:=Lib.hid ha
 clear hx hd hn hk hb ha hf hfW K0
 have kx:=((Keep.refl (fun _=>True) w).alloc (.cells #[.int .i64 k,.int .u64 (n:Int),.string ⟨t.toArray⟩,.slice A1 a c1,.int .i64 o,.slice A2 b c2] 78)).alloc (.cells #[.int .i64 k,.int .u64 (n:Int),.string ⟨t.toArray⟩,.slice A1 a c1,.int .i64 o,.slice A2 b c2] 78)
 have KXh:=Lib.hid kx
 have FX:=Lib.hid (HF0.out.new kx)
 clear kx
 have done:InsideP W w f short (.mk k n t ks o ds) ((w.alloc (.cells #[.int .i64 k,.int .u64 (n:Int),.string ⟨t.toArray⟩,.slice A1 a c1,.int .i64 o,.slice A2 b c2] 78)).alloc (.cells #[.int .i64 k,.int .u64 (n:Int),.string ⟨t.toArray⟩,.slice A1 a c1,.int .i64 o,.slice A2 b c2] 78)) (.agg #[.int .i64 k,.int .u64 (n:Int),.string ⟨t.toArray⟩,.slice A1 a c1,.int .i64 o,.slice A2 b c2]):=⟨New.keep KXh.out _,FX.out,_,.inl rfl,HX.out⟩
 have DONE:=Lib.hid done
 clear done
 by_cases h23:k=23
 ·subst h23
  by_cases h1:a=1
  ·subst h1
   obtain⟨u,rfl⟩:∃u,ks=[u]:=List.length_eq_one_iff.1 M.out.symm
   obtain⟨d,i,hAe,-,-,-,hat⟩:=HK.out.at2 (by simp)
   cases hAe
   obtain⟨e0,e1,e2,e3,e4,e5,hva,w0,w1,w2',w3,w4,w5⟩:=hat 0 (by simp)
   simp only [List.getElem_cons_zero,Nat.zero_mul,Nat.add_zero]at hva w0 w1 w2' w3 w4 w5
   have hva2:=hva
   obtain⟨Ak,ck,o',Ad,cd,heq,-,-⟩:=hva.parts'
   simp only [Value.agg.injEq,Array.mk.injEq,List.cons.injEq,and_true]at heq
   obtain⟨rfl,rfl,rfl,rfl,rfl,rfl⟩:=heq
   have hdf:d≠f:=by
    rintro rfl
    obtain⟨st,hh⟩:=HFW.out
    rw [blk_cell hh]at w2'
    simp at w2'
   have g0:=kb.cell (HK0.out.cell w0 hdf) trivial
   have HW0:=Lib.hid w0
   have HW1:=Lib.hid w1
   have HW2:=Lib.hid w2'
   have HW3:=Lib.hid w3
   have HW4:=Lib.hid w4
   have HW5:=Lib.hid w5
   have HV:=Lib.hid hva2
   clear hat hva hva2 w0 w1 w2' w3 w4 w5
   by_cases h20:u.kind=20
   ·rw [h20]at g0
    have HPK:=Lib.hid (pick_is f 2 (by omega) (by omega) short _ hf1.out)
    have HZ:=Lib.hid (blk_new (w.alloc (.cells #[.int .i64 23,.int .u64 (n:Int),.string ⟨t.toArray⟩,.slice (some ⟨d,i,none⟩) 1 c1,.int .i64 o,.slice A2 b c2] 78)) (.cells #[.int .i64 0,.int .u64 0,.string ⟨#[]⟩,.slice none 0 0,.int .i64 0,.slice none 0 0] 78))
    have HBB:=Lib.hid (blk_alloc (blk_new w (.cells #[.int .i64 23,.int .u64 (n:Int),.string ⟨t.toArray⟩,.slice (some ⟨d,i,none⟩) 1 c1,.int .i64 o,.slice A2 b c2] 78)) (.cells #[.int .i64 0,.int .u64 0,.string ⟨#[]⟩,.slice none 0 0,.int .i64 0,.slice none 0 0] 78))
    go_enter Tryz.func34,Tryz.ntmps34
    go_wp2_with fail
    refine HPK.out.mono ?_
    rintro e w2 ⟨j,rfl,hj,k2,hf2⟩
    have hfX:f<w.heap.size:=HF0.out.lt
    have hz0:=HZ.out
    simp only [World.size_alloc]at hz0
    have hz:=k2.blk hz0 (show w.heap.size+1≠f by omega)
    have hbb:=k2.blk HBB.out (show w.heap.size≠f by omega)
    have kw2:Keep (fun b=>b≠f) w w2:=(New.keep kb _).trans k2
    have F0:=blk_free hz 0
    have F1:=blk_free hz 1
    have F2:=blk_free hz 2
    have F3:=blk_free hz 3
    have F4:=blk_free hz 4
    have F5:=blk_free hz 5
    have z0:=(blk_cell hz 0).trans rfl
    have z1:=(blk_cell hz 1).trans rfl
    have z2:=(blk_cell hz 2).trans rfl
    have z3:=(blk_cell hz 3).trans rfl
    have z4:=(blk_cell hz 4).trans rfl
    have z5:=(blk_cell hz 5).trans rfl
    have b0:=(blk_cell hbb 0).trans rfl
    have b1:=(blk_cell hbb 1).trans rfl
    have b2:=(blk_cell hbb 2).trans rfl
    have b3:=(blk_cell hbb 3).trans rfl
    have b4:=(blk_cell hbb 4).trans rfl
    have b5:=(blk_cell hbb 5).trans rfl
    have hFX:∀a0 a1 a2 a3 a4 a5,FormsAt ((((((w2.setCell ⟨w.heap.size+1,0,none⟩ a0).setCell ⟨w.heap.size+1,1,none⟩ a1).setCell ⟨w.heap.size+1,2,none⟩ a2).setCell ⟨w.heap.size+1,3,none⟩ a3).setCell ⟨w.heap.size+1,4,none⟩ a4).setCell ⟨w.heap.size+1,5,none⟩ a5) f short:=fun a0 a1 a2 a3 a4 a5=>let ⟨st,h⟩:=hf2;⟨st,(set6_keep (Keep.refl (fun b=>b≠w.heap.size+1) w2) (.inr (by simp)) a0 a1 a2 a3 a4 a5).blk h (by omega)⟩
    have hKX:=fun a0 a1 a2 a3 a4 a5=>set6_keep kw2 (p:=w.heap.size+1) (.inl (by omega)) a0 a1 a2 a3 a4 a5
    have HKX:=Lib.hid hKX
    have HFX:=Lib.hid hFX
    clear hKX hFX
    rcases j with _ | _ | j
    ·have y0:=kw2.cell (HK0.out.cell HW0.out hdf) hdf
     have y1:=kw2.cell (HK0.out.cell HW1.out hdf) hdf
     have y2:=kw2.cell (HK0.out.cell HW2.out hdf) hdf
     have y3:=kw2.cell (HK0.out.cell HW3.out hdf) hdf
     have y4:=kw2.cell (HK0.out.cell HW4.out hdf) hdf
     have y5:=kw2.cell (HK0.out.cell HW5.out hdf) hdf
     rw [h20]at y0
     go_wp2
     refine bodyPost_ret (v:=.agg #[.int .i64 20,.int .u64 (u.num:Int),.string ⟨u.text.toArray⟩,.slice Ak u.kids.length ck,.int .i64 o',.slice Ad u.desc.length cd]) (by simp [results,Tryz.results34,go_sem,z0,z1,z2,z3,z4,z5]) rfl ?_
     have hv:=HV.out
     rw [h20]at hv
     exact⟨_,rfl,HKX.out _ _ _ _ _ _,HFX.out _ _ _ _ _ _,u,.inr ⟨rfl,rfl,h20⟩,hv⟩
    ·go_wp2
     refine bodyPost_ret (v:=.agg #[.int .i64 23,.int .u64 (n:Int),.string ⟨t.toArray⟩,.slice (some ⟨d,i,none⟩) 1 c1,.int .i64 o,.slice A2 b c2]) (by simp [results,Tryz.results34,go_sem,z0,z1,z2,z3,z4,z5]) rfl ?_
     exact⟨_,rfl,HKX.out _ _ _ _ _ _,HFX.out _ _ _ _ _ _,_,.inl rfl,HX.out⟩
    ·omega
   ·have t20:(u.kind==20)=false:=by simpa using h20
    go_enter Tryz.func34,Tryz.ntmps34
    go_wp2
    refine bodyPost_ret (v:=.agg #[.int .i64 23,.int .u64 (n:Int),.string ⟨t.toArray⟩,.slice (some ⟨d,i,none⟩) 1 c1,.int .i64 o,.slice A2 b c2]) (by simp [results,Tryz.results34,go_sem]) rfl ?_
    exact⟨_,rfl,DONE.out⟩
  ·have t1:((a:Int)==1)=false:=by simp;omega
   go_enter Tryz.func34,Tryz.ntmps34
   go_wp2
   refine bodyPost_ret (v:=.agg #[.int .i64 23,.int .u64 (n:Int),.string ⟨t.toArray⟩,.slice A1 a c1,.int .i64 o,.slice A2 b c2]) (by simp [results,Tryz.results34,go_sem]) rfl ?_
   exact⟨_,rfl,DONE.out⟩
 ·have t23:(k==23)=false:=by simpa using h23
  go_enter Tryz.func34,Tryz.ntmps34
  go_wp2
  refine bodyPost_ret (v:=.agg #[.int .i64 k,.int .u64 (n:Int),.string ⟨t.toArray⟩,.slice A1 a c1,.int .i64 o,.slice A2 b c2]) (by simp [results,Tryz.results34,go_sem]) rfl ?_
  exact⟨_,rfl,DONE.out⟩
theorem ofNumber_is(k:Int)(n:Nat)(w:World):
 Calls Tryz.prog 28 #[.int .i64 k,.int .u64 (n:Int)] w fun e w'=>e=.returned (.agg #[.int .i64 k,.int .u64 (n:Int),.string ⟨#[]⟩,.slice none 0 0,.int .i64 0,.slice none 0 0])∧New w w':=by
 go_enter Tryz.func28,Tryz.ntmps28
 go_wp2
 refine bodyPost_ret (v:=.agg #[.int .i64 k,.int .u64 (n:Int),.string ⟨#[]⟩,.slice none 0 0,.int .i64 0,.slice none 0 0]) (by simp [results,Tryz.results28,go_sem]) rfl ?_
 exact⟨rfl,(Keep.refl _ w).alloc _⟩
theorem mem_of{w:World}{v:V}{a0 a1 a2 a3 a4 a5:Value}(h:VM w v (.agg #[a0,a1,a2,a3,a4,a5])):Mem w [v] [a0,a1,a2,a3,a4,a5]:=by
 obtain⟨cs,e,hm⟩:=h
 injection e with e
 have e':cs=[a0,a1,a2,a3,a4,a5]:=by have:=congrArg Array.toList e;simpa using this.symm
 rwa [e']at hm
theorem whole_all(c:Nat)(hc:c<18446744073709551616)(fs:List (V×V))(hm:fs.length≤1000)(w:World)(s:Value)(hs:FM w fs s)(T:World→Prop)(hT:∀W,T W→∀d i c,s=.slice (some ⟨d,i,none⟩) fs.length c→∀j (hj:j<fs.length) a0 a1 a2 a3 a4 a5,w.cell? ⟨d,i+j*12,none⟩=some a0→w.cell? ⟨d,i+j*12+1,none⟩=some a1→w.cell? ⟨d,i+j*12+2,none⟩=some a2→w.cell? ⟨d,i+j*12+3,none⟩=some a3→w.cell? ⟨d,i+j*12+4,none⟩=some a4→w.cell? ⟨d,i+j*12+5,none⟩=some a5→VM W fs[j].1 (.agg #[a0,a1,a2,a3,a4,a5])):
 ∀n,n=fs.length→Calls Tryz.prog 31 #[.agg #[.int .u64 (c:Int),s]] w fun e w'=>∃sk d,e=.returned (.agg #[.int .i64 21,.int .u64 0,.string ⟨#[]⟩,sk,.int .i64 0,.slice (some ⟨d,0,none⟩) 1 1])∧New w w'∧(∃cells,w'.ownsRow (d+2) 78 6 sk n cells∧∀W,T W→Mem W (fs.map (·.1)) cells)∧w.heap.size≤d∧w'.heap[d]? =some (.cells #[.int .i64 5,.int .u64 (c:Int),.string ⟨#[]⟩,.slice none 0 0,.int .i64 0,.slice none 0 0] 78 (0,0)):=by
 obtain⟨A,cc,rfl,-,-⟩:=hs.shape
 intro n hn
 rw [←hn]at hs hm ⊢
 have M:=Lib.hid hn
 have HS:=Lib.hid hs
 have HT:=Lib.hid hT
 have HN:=Lib.hid (fun w=>ofNumber_is 5 c w)
 clear hn hs hT
 go_enter Tryz.func31,Tryz.ntmps31
 go_wp2_with fail
 refine(HN.out _).mono ?_
 rintro e w1 ⟨rfl,k1⟩
 have hb1:=k1.blk (blk_alloc (blk_new w (.cells #[.int .u64 (c:Int),.slice A n cc] 33)) (.cells #[.int .i64 0,.int .u64 0,.string ⟨#[]⟩,.slice none 0 0,.int .i64 0,.slice none 0 0] 78)) trivial
 have hr1:=k1.blk (blk_new (w.alloc (.cells #[.int .u64 (c:Int),.slice A n cc] 33)) (.cells #[.int .i64 0,.int .u64 0,.string ⟨#[]⟩,.slice none 0 0,.int .i64 0,.slice none 0 0] 78)) trivial
 simp only [World.size_alloc]at hr1
 have kw1:=(((Keep.refl (fun _=>True) w).alloc (.cells #[.int .u64 (c:Int),.slice A n cc] 33)).alloc (.cells #[.int .i64 0,.int .u64 0,.string ⟨#[]⟩,.slice none 0 0,.int .i64 0,.slice none 0 0] 78)).trans k1
 have hsz1:w.heap.size+2≤w1.heap.size:=lt_blk hr1
 obtain⟨p,hp⟩:∃p,p=w1.heap.size+1:=⟨_,rfl⟩
 have kA:=(Keep.refl (fun _=>True) w1).alloc (.cells #[.int .i64 5,.int .u64 (c:Int),.string ⟨#[]⟩,.slice none 0 0,.int .i64 0,.slice none 0 0] 78)
 have kB:=kA.alloc (.cells #[.int .i64 21,.int .u64 0,.string ⟨#[]⟩,.slice none 0 0,.int .i64 0,.slice (some ⟨w1.heap.size,0,none⟩) 1 1] 78)
 have hb2:=kB.blk hb1 trivial
 have hr2:=kB.blk hr1 trivial
 have hd2:=blk_alloc (blk_new w1 (.cells #[.int .i64 5,.int .u64 (c:Int),.string ⟨#[]⟩,.slice none 0 0,.int .i64 0,.slice none 0 0] 78)) (.cells #[.int .i64 21,.int .u64 0,.string ⟨#[]⟩,.slice none 0 0,.int .i64 0,.slice (some ⟨w1.heap.size,0,none⟩) 1 1] 78)
 have hv2:=blk_new (w1.alloc (.cells #[.int .i64 5,.int .u64 (c:Int),.string ⟨#[]⟩,.slice none 0 0,.int .i64 0,.slice none 0 0] 78)) (.cells #[.int .i64 21,.int .u64 0,.string ⟨#[]⟩,.slice none 0 0,.int .i64 0,.slice (some ⟨w1.heap.size,0,none⟩) 1 1] 78)
 simp only [World.size_alloc]at hv2
 have q1:=(blk_cell hb2 1).trans rfl
 have q0:=(blk_cell hb1 0).trans rfl
 have HR2:=Lib.hid hr2
 have HD2:=Lib.hid hd2
 have HV2:=Lib.hid hv2
 have HKB:=Lib.hid (kw1.trans kB)
 clear hb1 hr1 hb2 hr2 hd2 hv2 kA kB
 go_wp2_with fail
 go_loopg [14] n (fun kk s14 wr=>∃(j:Nat) (sk:Value),j+kk=n∧s14=.int .i64 (j:Int)∧New w wr∧wr.heap[w.heap.size+1]? =some (.cells #[.int .i64 0,.int .u64 0,.string ⟨#[]⟩,.slice none 0 0,.int .i64 0,.slice none 0 0] 78 (0,0))∧wr.heap[w1.heap.size]? =some (.cells #[.int .i64 5,.int .u64 (c:Int),.string ⟨#[]⟩,.slice none 0 0,.int .i64 0,.slice none 0 0] 78 (0,0))∧wr.heap[w1.heap.size+1]? =some (.cells #[.int .i64 21,.int .u64 0,.string ⟨#[]⟩,sk,.int .i64 0,.slice (some ⟨w1.heap.size,0,none⟩) 1 1] 78 (0,0))∧∃cells,wr.ownsRow (w1.heap.size+2) 78 6 sk j cells∧(∀W,T W→Mem W ((fs.map (·.1)).take j) cells))
 case atStart=>exact⟨0,.slice none 0 0,by omega,rfl,HKB.out,HR2.out,HD2.out,HV2.out,[],⟨rfl,.inl ⟨rfl,rfl⟩⟩,fun _ _=>.nil⟩
 case round=>
  obtain⟨j,sk,hj,rfl,kr,hr,hd,hv,cells,hrow,hmem⟩:=hrel
  obtain⟨Ak,ck,rfl⟩:=own_shape hrow
  have HROW:=Lib.hid hrow
  have HMEM:=Lib.hid hmem
  have HD:=Lib.hid hd
  have HV:=Lib.hid hv
  rcases gk with _ | kk
  ·obtain rfl:n=j:=by omega
   have F0:=blk_free hr 0
   have z0:=(blk_cell hr 0).trans rfl
   have v0:=(blk_cell hv 0).trans rfl
   have F1:=blk_free hr 1
   have z1:=(blk_cell hr 1).trans rfl
   have v1:=(blk_cell hv 1).trans rfl
   have F2:=blk_free hr 2
   have z2:=(blk_cell hr 2).trans rfl
   have v2:=(blk_cell hv 2).trans rfl
   have F3:=blk_free hr 3
   have z3:=(blk_cell hr 3).trans rfl
   have v3:=(blk_cell hv 3).trans rfl
   have F4:=blk_free hr 4
   have z4:=(blk_cell hr 4).trans rfl
   have v4:=(blk_cell hv 4).trans rfl
   have F5:=blk_free hr 5
   have z5:=(blk_cell hr 5).trans rfl
   have v5:=(blk_cell hv 5).trans rfl
   clear hrow hd
   go_wp2
   refine bodyPost_ret (v:=.agg #[.int .i64 21,.int .u64 0,.string ⟨#[]⟩,.slice Ak n ck,.int .i64 0,.slice (some ⟨w1.heap.size,0,none⟩) 1 1]) (by simp [results,Tryz.results31,go_sem,z0,z1,z2,z3,z4,z5]) rfl ?_
   have kX:=set6_keep (Keep.refl (fun b=>b≠w.heap.size+1) wr) (p:=w.heap.size+1) (.inr (by simp)) (.int .i64 21) (.int .u64 0) (.string ⟨#[]⟩) (.slice Ak n ck) (.int .i64 0) (.slice (some ⟨w1.heap.size,0,none⟩) 1 1)
   refine⟨_,w1.heap.size,rfl,set6_keep kr (.inl (by omega)) _ _ _ _ _ _,?_,by omega,kX.blk HD.out (by omega)⟩
   refine⟨cells,own_near HROW.out (kX.mono fun b hb=>?_),?_⟩
   ·intro hb'
    omega
   ·intro W hW
    have:=HMEM.out W hW
    rwa [M.out,←List.length_map (f:=(·.1)),List.take_length]at this
  ·have hjn:j<n:=by omega
   have tj:decide (j<n)=true:=by simpa using hjn
   have hj1:j<fs.length:=by rw [←M.out];exact hjn
   obtain⟨d,i,hAe,-,-,-,hat⟩:=HS.out.at (fun h=>by rw [h]at hj1;simp at hj1)
   cases hAe
   obtain⟨a0,a1,a2,a3,a4,a5,b0,b1,b2,b3,b4,b5,hva,hvb,g0,g1,g2,g3,g4,g5,g6,g7,g8,g9,g10,g11⟩:=hat j hj1
   have hTW:=fun W hW=>HT.out W hW d i cc rfl j hj1 _ _ _ _ _ _ g0 g1 g2 g3 g4 g5
   have htk:(fs.map (·.1)).take (j+1)=(fs.map (·.1)).take j++[fs[j].1]:=by
    rw [←List.take_append_getElem (by simpa using hj1:j<(fs.map (·.1)).length)]
    simp
   obtain⟨u,hu⟩:∃u,u=fs[j].1:=⟨_,rfl⟩
   obtain⟨x,hx⟩:∃x,x=fs[j].2:=⟨_,rfl⟩
   rw [←hu]at hva htk hTW
   rw [←hx]at hvb
   clear hu hx hat
   obtain⟨cu,hcu,hmu⟩:=hva
   have hva:VM w u (.agg #[a0,a1,a2,a3,a4,a5]):=⟨cu,hcu,hmu⟩
   obtain⟨A6,c6,o6,B6,e6,heq,-,-⟩:=hva.parts'
   simp only [Value.agg.injEq,Array.mk.injEq,List.cons.injEq,and_true]at heq
   obtain⟨rfl,rfl,rfl,rfl,rfl,rfl⟩:=heq
   obtain⟨A7,c7,o7,B7,e7,heq,-,-⟩:=hvb.parts'
   simp only [Value.agg.injEq,Array.mk.injEq,List.cons.injEq,and_true]at heq
   obtain⟨rfl,rfl,rfl,rfl,rfl,rfl⟩:=heq
   injection hcu with hcu
   have hcu2:cu=[.int .i64 u.kind,.int .u64 (u.num:Int),.string ⟨u.text.toArray⟩,.slice A6 u.kids.length c6,.int .i64 o6,.slice B6 u.desc.length e6]:=by have:=congrArg Array.toList hcu;simpa using this.symm
   subst hcu2
   have HTK:=Lib.hid htk
   have HMU:=Lib.hid hTW
   replace g0:=kr.cell g0 trivial
   replace g1:=kr.cell g1 trivial
   replace g2:=kr.cell g2 trivial
   replace g3:=kr.cell g3 trivial
   replace g4:=kr.cell g4 trivial
   replace g5:=kr.cell g5 trivial
   replace g6:=kr.cell g6 trivial
   replace g7:=kr.cell g7 trivial
   replace g8:=kr.cell g8 trivial
   replace g9:=kr.cell g9 trivial
   replace g10:=kr.cell g10 trivial
   replace g11:=kr.cell g11 trivial
   have kA:=(Keep.refl (fun _=>True) wr).alloc (.cells #[.int .i64 u.kind,.int .u64 (u.num:Int),.string ⟨u.text.toArray⟩,.slice A6 u.kids.length c6,.int .i64 o6,.slice B6 u.desc.length e6,.int .i64 x.kind,.int .u64 (x.num:Int),.string ⟨x.text.toArray⟩,.slice A7 x.kids.length c7,.int .i64 o7,.slice B7 x.desc.length e7] 81)
   have v3:=cell_alloc ((blk_cell hv 3).trans rfl) (.cells #[.int .i64 u.kind,.int .u64 (u.num:Int),.string ⟨u.text.toArray⟩,.slice A6 u.kids.length c6,.int .i64 o6,.slice B6 u.desc.length e6,.int .i64 x.kind,.int .u64 (x.num:Int),.string ⟨x.text.toArray⟩,.slice A7 x.kids.length c7,.int .i64 o7,.slice B7 x.desc.length e7] 81)
   have kB:=kA.alloc (.cells #[.int .i64 u.kind,.int .u64 (u.num:Int),.string ⟨u.text.toArray⟩,.slice A6 u.kids.length c6,.int .i64 o6,.slice B6 u.desc.length e6] 78)
   obtain⟨g,cap,w5,hap,hown5,k5⟩:=append_val ((wr.alloc (.cells #[.int .i64 u.kind,.int .u64 (u.num:Int),.string ⟨u.text.toArray⟩,.slice A6 u.kids.length c6,.int .i64 o6,.slice B6 u.desc.length e6,.int .i64 x.kind,.int .u64 (x.num:Int),.string ⟨x.text.toArray⟩,.slice A7 x.kids.length c7,.int .i64 o7,.slice B7 x.desc.length e7] 81)).alloc (.cells #[.int .i64 u.kind,.int .u64 (u.num:Int),.string ⟨u.text.toArray⟩,.slice A6 u.kids.length c6,.int .i64 o6,.slice B6 u.desc.length e6] 78)) (w1.heap.size+2) (.slice Ak j ck) j _ (own_keep HROW.out kB) (wr.heap.size+1) 1 [.int .i64 u.kind,.int .u64 (u.num:Int),.string ⟨u.text.toArray⟩,.slice A6 u.kids.length c6,.int .i64 o6,.slice B6 u.desc.length e6] rfl (by have:=blk_new (wr.alloc (.cells #[.int .i64 u.kind,.int .u64 (u.num:Int),.string ⟨u.text.toArray⟩,.slice A6 u.kids.length c6,.int .i64 o6,.slice B6 u.desc.length e6,.int .i64 x.kind,.int .u64 (x.num:Int),.string ⟨x.text.toArray⟩,.slice A7 x.kids.length c7,.int .i64 o7,.slice B7 x.desc.length e7] 81)) (.cells #[.int .i64 u.kind,.int .u64 (u.num:Int),.string ⟨u.text.toArray⟩,.slice A6 u.kids.length c6,.int .i64 o6,.slice B6 u.desc.length e6] 78);simpa only [World.size_alloc]using this) (by simp [Value.oneCell']) (by omega) (by have:=lt_blk HV.out;have:=kB.size;omega)
   have far5:=own_far HROW.out
   have hsv:=lt_blk HV.out
   have hv5:=k5.blk (kB.blk HV.out trivial) (far5 _ (by omega))
   have hd5:=k5.blk (kB.blk HD.out trivial) (far5 _ (by omega))
   have hr5:=k5.blk (kB.blk hr trivial) (far5 _ (by omega))
   have f5:=blk_free hv5 3
   have y5:=(blk_cell hv5 3).trans rfl
   have HAP:=Lib.hid hap
   have K5:=Lib.hid ((kr.trans kB).then k5 (fun i hi _=>far5 i (by omega)))
   have HO5:=Lib.hid hown5
   have HV5:=Lib.hid hv5
   have HD5:=Lib.hid hd5
   have HR5:=Lib.hid hr5
   clear hTW hap k5 hown5 hv5 hd5 hr5 far5 hva hvb hcu hmu htk hrow hmem hr hd hv kA kB
   go_wp2_with (at_builtin;refine wpList_append_eq rfl _ _ 43 rfl _ _ _ _ rfl rfl HAP.out ?_)
   go_roundg kk
   case measure=>omega
   case rel=>
    have kS:=(Keep.refl (fun b=>b≠w1.heap.size+1) w5).setCell (p:=⟨w1.heap.size+1,3,none⟩) (.inr (by simp)) (.slice (some ⟨g,0,none⟩) (j+1) cap)
    refine⟨j+1,.slice (some ⟨g,0,none⟩) (j+1) cap,by omega,congrArg _ (by omega),K5.out.setCell (p:=⟨w1.heap.size+1,3,none⟩) (.inl (by show w.heap.size≤w1.heap.size+1;omega)) _,kS.blk HR5.out (by omega),kS.blk HD5.out (by omega),by simpa using blk_set HV5.out 3 (.slice (some ⟨g,0,none⟩) (j+1) cap),_,own_near HO5.out (kS.mono fun b _ hb=>by omega),?_⟩
    rw [HTK.out]
    intro W hW
    exact(HMEM.out W hW).append (mem_of (HMU.out W hW))
theorem whole_is(c:Nat)(hc:c<18446744073709551616)(fs:List (V×V))(hm:fs.length≤1000)(w:World)(s:Value)(hs:FM w fs s):
 ∀n,n=fs.length→Calls Tryz.prog 31 #[.agg #[.int .u64 (c:Int),s]] w fun e w'=>∃sk d,e=.returned (.agg #[.int .i64 21,.int .u64 0,.string ⟨#[]⟩,sk,.int .i64 0,.slice (some ⟨d,0,none⟩) 1 1])∧New w w'∧(∃cells,w'.ownsRow (d+2) 78 6 sk n cells∧Mem w (fs.map (·.1)) cells)∧w.heap.size≤d∧w'.heap[d]? =some (.cells #[.int .i64 5,.int .u64 (c:Int),.string ⟨#[]⟩,.slice none 0 0,.int .i64 0,.slice none 0 0] 78 (0,0)):=by
 intro n hn
 refine(whole_all c hc fs hm w s hs (fun W=>W=w) (fun W hW d i c' he j hj a0 a1 a2 a3 a4 a5 g0 g1 g2 g3 g4 g5=>?_) n hn).mono ?_
 ·subst hW
  subst he
  obtain⟨d',i',hA,-,-,-,hat⟩:=hs.at (fun h=>by rw [h]at hj;simp at hj)
  cases hA
  obtain⟨x0,x1,x2,x3,x4,x5,b0,b1,b2,b3,b4,b5,hva,-,q0,q1,q2,q3,q4,q5,-⟩:=hat j hj
  rw [g0]at q0;rw [g1]at q1;rw [g2]at q2;rw [g3]at q3;rw [g4]at q4;rw [g5]at q5
  cases q0;cases q1;cases q2;cases q3;cases q4;cases q5
  exact hva
 ·rintro e w' ⟨sk,d,he,k,⟨cells,h1,h2⟩,h3⟩
  exact⟨sk,d,he,k,⟨cells,h1,h2 w rfl⟩,h3⟩
def nul:V:=.mk 0 0 [] [] 0 []
def mpF(l:List V):V:=if l=[]then nul else .mk 22 0 [] l 0 []
def Put1(f:V×V)(u:V):Prop:=Inside f.1 u∨u=nul∧f.1.kind≠0∧f.2.kind≠0∧sameV f.1 f.2=true
structure PutK(fs:List (V×V))(ks:List V):Prop where
 le:ks.length≤fs.length
 each:∀j (_:j<ks.length) (_:j<fs.length),Put1 fs[j] ks[j]
 rest:∀j (_:j<fs.length),ks.length≤j→∃u,Put1 fs[j] u∧u.kind=0
theorem Put1.same{v u:V}(h:Put1 (v,nul) u)(hk:v.kind≠23):u=v:=by
 rcases h with(h | h) | ⟨_,_,h,_⟩
 ·exact h
 ·exact absurd h.1 hk
 ·exact absurd rfl h
theorem Leaf.desc{v:V}{b:List UInt8}(h:Leaf v b):v.desc=[]:=by cases h<;>rfl
theorem EncV.desc{l:List V}{b:List UInt8}(h:EncV l b):∀v∈l,v.desc=[]:=by
 induction h with
 | nil=>intro v hv;simp at hv
 | leaf h hs ih=>exact fun v hv=>(List.mem_cons.1 hv).elim (fun e=>e▸h.desc) (ih v)
 | list0 hs ih=>exact fun v hv=>(List.mem_cons.1 hv).elim (fun e=>e▸rfl) (ih v)
 | list hk hh hm hs _ ih=>exact fun v hv=>(List.mem_cons.1 hv).elim (fun e=>e▸rfl) (ih v)
 | map hk hh hm ok hs _ ih=>exact fun v hv=>(List.mem_cons.1 hv).elim (fun e=>e▸rfl) (ih v)
 | arr hk hh hm hne hs ih=>exact fun v hv=>(List.mem_cons.1 hv).elim (fun e=>e▸rfl) (ih v)
theorem EncW.len{l:List V}{b:List UInt8}(h:EncW l b):l.length≤b.length:=by
 induction h with
 | nil=>simp
 | plain h hs ih=>have:=h.len;simp only [List.length_cons,List.length_nil,List.length_append]at *;omega
 | comp0 hd hs ih=>simp;omega
 | comp hd hk hh hm hs _ ih=>simp;omega
theorem EncW.comp_inv{o od:Int}{c:Nat}{kids:List V}{b:List UInt8}(h:EncW [.mk 21 0 [] kids o [.mk 5 c [] [] od []]] b):
 ∃d lb body,b=0::(d++(lb++body))∧Leaf (.mk 5 c [] [] od []) d∧LHd kids.length body lb∧EncW kids body:=by
 obtain⟨l,hl⟩:∃l,l=[V.mk 21 0 [] kids o [.mk 5 c [] [] od []]]:=⟨_,rfl⟩
 rw [←hl]at h
 cases h with
 | nil=>simp at hl
 | plain h hs=>
   simp only [List.cons.injEq]at hl
   obtain⟨rfl,rfl⟩:=hl
   have:=h.desc _ (List.mem_cons_self ..)
   simp [V.desc]at this
 | comp0 hd hs=>
   simp only [List.cons.injEq,V.mk.injEq,true_and,and_true]at hl
   obtain⟨⟨rfl,rfl,rfl,rfl⟩,rfl⟩:=hl
   cases hs
   exact⟨_,[69],[],by simp,hd,.inl ⟨rfl,rfl,rfl⟩,.nil⟩
 | comp hd hk hh hm hs=>
   simp only [List.cons.injEq,V.mk.injEq,true_and,and_true]at hl
   obtain⟨⟨rfl,rfl,rfl,rfl⟩,rfl⟩:=hl
   cases hs
   exact⟨_,_,_,by simp,hd,.inr hh,hk⟩
theorem EncW.snoc_nil{l:List V}{b:List UInt8}(h:EncW l (b++[])):EncW l b:=by rwa [List.append_nil]at h
theorem EncW.split{l:List V}{b:List UInt8}(h:EncW l b):∃bs:List (List UInt8),bs.length=l.length∧bs.flatten=b∧∀j (h1:j<l.length) (h2:j<bs.length),EncW [l[j]] bs[j]:=by
 have step:∀{v:V} {vs:List V} {b bs:List UInt8},EncW [v] b→(∃cs:List (List UInt8),cs.length=vs.length∧cs.flatten=bs∧∀j (h1:j<vs.length) (h2:j<cs.length),EncW [vs[j]] cs[j])→
  ∃cs:List (List UInt8),cs.length=(v::vs).length∧cs.flatten=b++bs∧∀j (h1:j<(v::vs).length) (h2:j<cs.length),EncW [(v::vs)[j]] cs[j]:=by
  rintro v vs b bs h ⟨cs,e1,e2,e3⟩
  refine⟨b::cs,by simp [e1],by simp [e2],fun j h1 h2=>?_⟩
  cases j with
  | zero=>exact h
  | succ j=>exact e3 j (by simpa using h1) (by simpa using h2)
 induction h with
 | nil=>exact⟨[],rfl,rfl,fun j h1=>absurd h1 (by simp)⟩
 | plain h hs ih=>exact step (.snoc_nil (.plain h .nil)) ih
 | comp0 hd hs ih=>exact step (.snoc_nil (.comp0 hd .nil)) ih
 | comp hd hk hh hm hs _ ih=>exact step (.snoc_nil (.comp hd hk hh hm .nil)) ih
theorem EncW.v1{v:V}{b:List UInt8}(h:EncW [v] b)(hd:v.desc=[]):EncV [v] b:=h.toV fun u hu=>by rw [List.mem_singleton.1 hu];exact hd
theorem EncV.leaf1{v:V}{b:List UInt8}(h:EncV [v] b)(hk:v.kind<21):Leaf v b:=by
 obtain⟨l,hl⟩:∃l,l=[v]:=⟨_,rfl⟩
 rw [←hl]at h
 cases h with
 | nil=>simp at hl
 | leaf h hs=>
   simp only [List.cons.injEq]at hl
   obtain⟨rfl,rfl⟩:=hl
   cases hs
   rw [List.append_nil]
   exact h
 | list0 hs=>simp only [List.cons.injEq]at hl;obtain⟨rfl,_⟩:=hl;exact absurd hk (by simp [V.kind])
 | list hk' hh hm hs=>simp only [List.cons.injEq]at hl;obtain⟨rfl,_⟩:=hl;exact absurd hk (by simp [V.kind])
 | map hk' hh hm ok hs=>simp only [List.cons.injEq]at hl;obtain⟨rfl,_⟩:=hl;exact absurd hk (by simp [V.kind])
 | arr hk' hh hm hne hs=>simp only [List.cons.injEq]at hl;obtain⟨rfl,_⟩:=hl;exact absurd hk (by simp [V.kind])
theorem EncV.map1{ps:List (V×V)}{o:Int}{b:List UInt8}(h:EncV [.mk 22 0 [] (flat2 ps) o []] b):∃h body,b=h++body∧EncV (flat2 ps) body∧Hd 193 209 (2*ps.length) body h∧2*ps.length≤1000∧MapOk ps:=by
 obtain⟨l,hl⟩:∃l,l=[V.mk 22 0 [] (flat2 ps) o []]:=⟨_,rfl⟩
 rw [←hl]at h
 cases h with
 | nil=>simp at hl
 | leaf h hs=>simp only [List.cons.injEq]at hl;obtain⟨rfl,_⟩:=hl;cases h
 | list0 hs=>simp at hl
 | list hk' hh hm hs=>simp at hl
 | arr hk' hh hm hne hs=>simp at hl
 | map hk hh hm ok hs=>
   simp only [List.cons.injEq,V.mk.injEq,true_and,and_true]at hl
   obtain⟨⟨e,rfl⟩,rfl⟩:=hl
   obtain rfl:=flat2_inj e
   cases hs
   exact⟨_,_,by simp,hk,hh,hm,ok⟩
theorem nul_enc{b:List UInt8}(h:EncV [nul] b):b=[64]:=by
 have:=h.leaf1 (by show(0:Int)<21;omega)
 unfold nul at this
 cases this
 rfl
theorem text_head{v:V}{b:List UInt8}(h:Leaf v b)(hk:TextK v.kind):∃b0 b',b=b0::b'∧b0≠64:=by
 cases h
 all_goals first
  | (exfalso;simp [TextK,V.kind]at hk;done)
  | exact⟨_,_,rfl,by decide⟩
theorem text1{k o:Int}{t b:List UInt8}(hk:TextK k)(h:EncV [.mk k 0 t [] o []] b):ReadsT t b∧∃b0 b',b=b0::b'∧b0≠64:=by
 have hl:=h.leaf1 (by show k<21;unfold TextK at hk;omega)
 exact⟨(text_reads hl hk).1,text_head hl hk⟩
theorem texts_once{ps:List (V×V)}(ok:MapOk ps)(hk:∀q∈ps,TextK q.1.kind)(hn:∀q∈ps,q.1.num=0):(ps.map fun q=>q.1.text).Nodup:=by
 have h1:(ps.map fun q=>rk q.1)=(ps.map fun q=>q.1.text).map fun t=>((19:Int),0,t):=by
  rw [List.map_map]
  refine List.map_congr_left fun q hq=>?_
  have:=hk q hq
  simp only [rk,hn q hq,Function.comp]
  unfold TextK at this
  rcases this with h | h
  ·rw [if_neg (by omega),h]
  ·rw [if_pos h]
 have h2:=ok.once
 rw [h1]at h2
 exact(List.pairwise_map.1 h2).imp fun h e=>h (by rw [e])
theorem fieldM_of{ps:List (V×V)}{b:List UInt8}(hk:∀q∈ps,TextK q.1.kind)(hn:∀q∈ps,q.1.num=0)(h:EncV [mpF (flat2 ps)] b):FieldM ps b:=by
 unfold mpF at h
 split at h
 ·rename_i e
  refine .inl ⟨nul_enc h,?_⟩
  rcases ps with _ | ⟨q,ps⟩
  ·rfl
  ·simp [flat2]at e
 ·obtain⟨hd,body,rfl,h1,h2,h3,h4⟩:=h.map1
  exact .inr ⟨hd,body,rfl,h2,texts_of h1 hk,texts_once h4 hk hn,h3,by have:=h1.len;rwa [flat2_len]at this⟩
def MapA(K:Int→Prop)(l:List V):Prop:=∃ps,l=flat2 ps∧AbleL (flat2 ps)∧2*ps.length≤1000∧MapOk ps∧NSA (flat2 ps)∧∀q∈ps,K q.1.kind
theorem MapA.nil(K:Int→Prop):MapA K []:=⟨[],rfl,.nil,by simp,⟨by simp,by simp⟩,.nil,by simp⟩
theorem MapA.of{K:Int→Prop}{ps:List (V×V)}(h:AbleL [.mk 22 0 [] (flat2 ps) 0 []])(hs:NSA [.mk 22 0 [] (flat2 ps) 0 []])(hk:∀q∈ps,K q.1.kind):MapA K (flat2 ps):=by
 obtain⟨h1,h2,h3,_⟩:=h.map_inv
 exact⟨ps,rfl,h1,h2,h3,hs.kids.1,hk⟩
theorem keys_plain{ps:List (V×V)}(hA:AbleL (flat2 ps))(hk:∀q∈ps,TextK q.1.kind):∀q∈ps,∃o,q.1=.mk q.1.kind 0 q.1.text [] o []:=by
 intro q hq
 have hL:=(AbleL.mem.1 hA q.1 (flat2_mem.2 ⟨q,hq,.inl rfl⟩)).leaf_of (hk q hq).key
 have ht:=hk q hq
 have e:=hL.plain
 refine⟨q.1.of,?_⟩
 have h0:q.1.num=0:=by
  obtain⟨a,b⟩:=q
  simp only at hL ht ⊢
  cases hL<;>first | rfl | (exfalso;simp [TextK,V.kind]at ht;done)
 rw [h0]at e
 exact e
def dfl(d v:V):V:=if v.kind=0 then d else v
structure FS(d a b:V):Prop where
 ta:Tidy [dfl d a]
 tb:Tidy [dfl d b]
 same:sameL (usualV (dfl d a)) (usualV (dfl d b))=true
theorem Sims.one{a b:V}(h:Sims [a] [b]):sameL (usualV a) (usualV b)=true:=by
 have:=h.same
 simpa [usualVs,sameLs]using this
theorem tidy_leaf(k:Int)(n:Nat)(t:List UInt8)(o:Int):Tidy [.mk k n t [] o []]:=.cons (fun _=>rfl) .nil .nil
theorem dfl_nul(v:V)(h:v.kind≠0)(d:V):dfl d v=v:=if_neg h
theorem dfl_of(d v:V)(h:v.kind=0):dfl d v=d:=if_pos h
theorem fs_nul{d:V}(hd:Tidy [d])(hs:Sims [d] [d]){a b:V}(ha:a.kind=0)(hb:b.kind=0):FS d a b:=
 ⟨by rw [dfl_of _ _ ha];exact hd,by rw [dfl_of _ _ hb];exact hd,by rw [dfl_of _ _ ha,dfl_of _ _ hb];exact hs.one⟩
theorem sims_nul:Sims [nul] [nul]:=.leaf (by omega) (.inl rfl) (by omega) .nil
theorem tidy_nul:Tidy [nul]:=tidy_leaf 0 0 [] 0
theorem fs_of{d a b:V}(ha:a.kind≠0)(hb:b.kind≠0)(ta:Tidy [a])(tb:Tidy [b])(hs:Sims [a] [b]):FS d a b:=
 ⟨by rw [dfl_nul _ ha];exact ta,by rw [dfl_nul _ hb];exact tb,by rw [dfl_nul _ ha,dfl_nul _ hb];exact hs.one⟩
theorem fs_leaf(d:V){k:Int}(n:Nat)(t:List UInt8)(o o':Int)(h0:k≠0)(hk:k<21)(h20:k=20→n=0):FS d (.mk k n t [] o []) (.mk k n t [] o' []):=
 fs_of h0 h0 (tidy_leaf ..) (tidy_leaf ..) (.leaf hk (.inl rfl) h20 .nil)
theorem mapA_tidy{K:Int→Prop}{l:List V}(h:MapA K l):Tidy l:=by
 obtain⟨ps,rfl,hA,_⟩:=h
 exact hA.tidy
theorem fs_map{ps qs:List (V×V)}{us:List V}(hp:ps.Perm qs)(h1:∀q∈ps,q.1.kind<21)(ht:Tidy (flat2 ps))(hs:Sims (flat2 qs) us):FS nul (mpF (flat2 ps)) (mpF us):=by
 rcases ps with _ | ⟨q,ps⟩
 ·obtain rfl:=hp.nil_eq
  cases hs
  exact fs_nul tidy_nul sims_nul rfl rfl
 ·have hu:us≠[]:=by
   have h2:=hs.len
   rw [flat2_len,←hp.length_eq]at h2
   intro e
   rw [e]at h2
   simp at h2
  have e1:mpF (flat2 (q::ps))=.mk 22 0 [] (flat2 (q::ps)) 0 []:=if_neg (by simp [flat2])
  have e2:mpF us=.mk 22 0 [] us 0 []:=if_neg hu
  rw [e1,e2]
  exact fs_of (by simp [V.kind]) (by simp [V.kind]) (.cons (fun h=>absurd h (by omega)) ht .nil) (.cons (fun h=>absurd h (by omega)) hs.tidy .nil) (Sims.map hp h1 hs .nil)
def kM(n:Nat):Int:=if n=0 then 0 else 22
theorem mpF_eq(l:List V):mpF l=.mk (kM l.length) 0 [] l 0 []:=by
 unfold mpF nul kM
 rcases l with _ | ⟨a,l⟩
 ·rfl
 ·simp
def mpS(A:Option Addr)(n c:Nat):Value:=if n=0 then .slice none 0 0 else .slice A n c
theorem mapField_is(A:Option Addr)(n c:Nat)(w:World):
 Calls Tryz.prog 44 #[.slice A n c] w fun e w'=>∃B c',mpS A n c=.slice B n c'∧e=.returned (.agg #[.int .i64 (kM n),.int .u64 0,.string ⟨#[]⟩,.slice B n c',.int .i64 0,.slice none 0 0,.int .i64 0,.int .u64 0,.string ⟨#[]⟩,.slice none 0 0,.int .i64 0,.slice none 0 0])∧New w w':=by
 by_cases h:n=0
 ·subst h
  go_enter Tryz.func44,Tryz.ntmps44
  go_wp2
  refine bodyPost_ret (v:=.agg #[.int .i64 0,.int .u64 0,.string ⟨#[]⟩,.slice none 0 0,.int .i64 0,.slice none 0 0,.int .i64 0,.int .u64 0,.string ⟨#[]⟩,.slice none 0 0,.int .i64 0,.slice none 0 0]) (by simp [results,Tryz.results44,go_sem]) rfl ?_
  exact⟨none,0,rfl,rfl,(Keep.refl _ w).alloc _⟩
 ·have t0:((n:Int)==0)=false:=by simp;omega
  have hs:mpS A n c=.slice A n c:=if_neg h
  have hi:kM n=22:=if_neg h
  rw [hi]
  have HS:=Lib.hid hs
  clear hs hi
  go_enter Tryz.func44,Tryz.ntmps44
  go_wp2
  refine bodyPost_ret (v:=.agg #[.int .i64 22,.int .u64 0,.string ⟨#[]⟩,.slice A n c,.int .i64 0,.slice none 0 0,.int .i64 0,.int .u64 0,.string ⟨#[]⟩,.slice none 0 0,.int .i64 0,.slice none 0 0]) (by simp [results,Tryz.results44,go_sem]) rfl ?_
  exact⟨A,c,HS.out,rfl,(Keep.refl _ w).alloc _⟩
theorem LM.mps{w:World}{l:List V}{A:Option Addr}{c:Nat}(h:LM w l (.slice A l.length c)){B:Option Addr}{c':Nat}(e:mpS A l.length c=.slice B l.length c'):LM w l (.slice B l.length c'):=by
 rw [←e]
 unfold mpS
 split
 ·rename_i h
  obtain rfl:l=[]:=List.eq_nil_of_length_eq_zero h
  exact LM.nil
 ·exact h
theorem mem_mk{w:World}{k:Int}{n:Nat}{t:List UInt8}{ks:List V}{o:Int}{sk:Value}{vs:List V}{cells:List Value}(hn:n<18446744073709551616)(hk:LM w ks sk)(hs:Mem w vs cells):Mem w (.mk k n t ks o []::vs) (.int .i64 k::.int .u64 (n:Int)::.string ⟨t.toArray⟩::sk::.int .i64 o::.slice none 0 0::cells):=by
 obtain⟨ck,h1,h2⟩:=hk
 exact .cons hn h1 h2 (slM_nil w) .nil hs
theorem LM.mps2{w:World}{l:List V}{A B:Option Addr}{n c c':Nat}(h:LM w l (.slice A n c))(hn:n=l.length)(e:mpS A n c=.slice B n c'):LM w l (.slice B n c'):=by
 subst hn
 exact h.mps e
end Go.Proofs.YtfoegolfadhmjaaGreatDoor
