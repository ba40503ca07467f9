/- Plain laws: what is written in pieces is an encoding; which trees are tidy. -/
import Derived.Test.YtfoegolfadhmjaaGreatDoorZ15
import Derived.Test.YtfoegolfadhmjaaGreatDoorZ18
set_option linter.all false
set_option maxRecDepth 100000
set_option maxHeartbeats 8000000
namespace Go.Proofs.YtfoegolfadhmjaaGreatDoor
open Go.RowKit Go.WideShapes Go.Sort
inductive Tidy:List V→Prop where
 | nil:Tidy []
 | cons {k:Int} {n:Nat} {t:List UInt8} {ks vs:List V} {o:Int} (h1:k<21→ks=[]) (hk:Tidy ks) (hs:Tidy vs):Tidy (.mk k n t ks o []::vs)
theorem Tidy.inv{v:V}(h:Tidy [v]):∃k n t ks o,v=.mk k n t ks o []∧(k<21→ks=[])∧Tidy ks:=by
 cases h with
 | cons h1 hk _=>exact⟨_,_,_,_,_,rfl,h1,hk⟩
theorem Tidy.get{l:List V}(h:Tidy l):∀(j:Nat) (hj:j<l.length),Tidy [l[j]]:=by
 induction h with
 | nil=>intro j hj;simp at hj
 | cons h1 hk hs _ ih=>
   intro j hj
   cases j with
   | zero=>exact .cons h1 hk .nil
   | succ j=>exact ih j (by simpa using hj)
theorem usual_tidy{k:Int}{n:Nat}{t:List UInt8}{ks:List V}{o:Int}(h2:k=23→∀v,ks=[v]→v.kind≠20)(hk:k≠20):usualV (.mk k n t ks o [])=.mk k n t (usualVs ks) o []:=by
 by_cases h23:k=23
 ·subst h23
  match ks,h2 with
  | [],_=>simp [usualV,usualVs]
  | [.mk k' n' t' ks' o' ds'],h2=>
    have:=h2 rfl _ rfl
    have h':¬k'=20:=this
    simp [usualV,h']
  | a::b::r,_=>simp [usualV]
 ·have:(k==23)=false:=by simpa using h23
  simp only [usualV,this]
  rw [if_neg hk,if_neg (by simp)]
theorem usualVs_take_succ(l:List V)(j:Nat)(hj:j<l.length):usualVs (l.take (j+1))=usualVs (l.take j)++[usualV l[j]]:=by
 rw [usualVs_map,usualVs_map,List.map_take,List.map_take,←List.take_append_getElem (by simpa using hj)]
 simp
theorem LM.empty{w w':World}{s:Value}(h:LM w [] s):LM w' [] s:=by
 obtain⟨cells,⟨A,c,hs,h1,h2,h3,_⟩,_⟩:=h
 exact⟨[],⟨A,c,hs,h1,h2,rfl,fun h=>absurd rfl h⟩,.nil⟩
theorem usual_sym(n:Nat)(t:List UInt8)(o:Int)(w:World)(x:Value)(hx:VM w (.mk 20 n t [] o []) x):
 Calls Tryz.prog 138 #[x] w fun e w'=>∃y,e=.returned y∧New w w'∧Dep (fun b=>w.heap.size≤b) w' (fun w=>VM w (usualV (.mk 20 n t [] o [])) y):=by
 obtain⟨sk,sd,rfl,hn,hks,hds⟩:=hx.inv
 have HDS:=Lib.hid hds
 obtain⟨A1,c1,rfl,-,-⟩:=hks.shape
 obtain⟨A2,c2,rfl,-,-⟩:=hds.shape
 clear hks hds hx
 simp only [List.length_nil]at HDS ⊢
 go_enter Tryz.func138,Tryz.ntmps138
 go_wp2_with fail
 go_loopg [42] 0 (fun m s42 wr=>s42=.int .i64 0∧New w wr∧wr.heap[w.heap.size]? =some (.cells #[.int .i64 20,.int .u64 (n:Int),.string ⟨t.toArray⟩,.slice A1 0 c1,.int .i64 o,.slice A2 0 c2] 78 (0,0))∧
  wr.heap[w.heap.size+1]? =some (.cells #[.int .i64 0,.int .u64 0,.string ⟨#[]⟩,.slice none 0 0,.int .i64 0,.slice none 0 0] 78 (0,0))∧wr.heap[w.heap.size+2]? =some (.cells #[.int .i64 19,.int .u64 0,.string ⟨t.toArray⟩,.slice none 0 0,.int .i64 0,.slice A2 0 c2] 78 (0,0)))
 case atStart=>
  refine⟨rfl,((((Keep.refl _ w).alloc _).alloc _).alloc _),blk_alloc (blk_alloc (blk_new w _) _) _,?_,?_⟩
  ·exact blk_alloc (by simpa using blk_new (w.alloc (.cells #[.int .i64 20,.int .u64 (n:Int),.string ⟨t.toArray⟩,.slice A1 0 c1,.int .i64 o,.slice A2 0 c2] 78)) (.cells #[.int .i64 0,.int .u64 0,.string ⟨#[]⟩,.slice none 0 0,.int .i64 0,.slice none 0 0] 78)) _
  ·simpa using blk_new ((w.alloc (.cells #[.int .i64 20,.int .u64 (n:Int),.string ⟨t.toArray⟩,.slice A1 0 c1,.int .i64 o,.slice A2 0 c2] 78)).alloc (.cells #[.int .i64 0,.int .u64 0,.string ⟨#[]⟩,.slice none 0 0,.int .i64 0,.slice none 0 0] 78)) (.cells #[.int .i64 19,.int .u64 0,.string ⟨t.toArray⟩,.slice none 0 0,.int .i64 0,.slice A2 0 c2] 78)
 case round=>
  obtain⟨rfl,kr,h0,h1,h2⟩:=hrel
  have a0:=(blk_cell h0 0).trans rfl
  have a5:=(blk_cell h0 5).trans rfl
  have x0:=(blk_cell h1 0).trans rfl
  have x1:=(blk_cell h1 1).trans rfl
  have x2:=(blk_cell h1 2).trans rfl
  have x3:=(blk_cell h1 3).trans rfl
  have x4:=(blk_cell h1 4).trans rfl
  have x5:=(blk_cell h1 5).trans rfl
  have f0:=blk_free h1 0
  have f1:=blk_free h1 1
  have f2:=blk_free h1 2
  have f3:=blk_free h1 3
  have f4:=blk_free h1 4
  have f5:=blk_free h1 5
  have y0:=(blk_cell h2 0).trans rfl
  have y1:=(blk_cell h2 1).trans rfl
  have y2:=(blk_cell h2 2).trans rfl
  have y3:=(blk_cell h2 3).trans rfl
  have y4:=(blk_cell h2 4).trans rfl
  have y5:=(blk_cell h2 5).trans rfl
  clear h0 h1 h2
  go_wp2
  refine bodyPost_ret (v:=.agg #[.int .i64 19,.int .u64 0,.string ⟨t.toArray⟩,.slice none 0 0,.int .i64 0,.slice A2 0 c2]) (by simp [results,Tryz.results138,go_sem,x0,x1,x2,x3,x4,x5]) rfl ⟨_,rfl,?_,?_⟩
  ·repeat (refine Keep.setCell ?_ (Or.inl (b:=¬True) (Nat.le_succ _)) _)
   exact kr
  ·intro w2 _
   exact VM.mk (t:=t) (by omega) LM.nil HDS.out.empty
theorem usual_one(n n':Nat)(t t':List UInt8)(ks' ds':List V)(o o':Int)(w:World)(x:Value)(hx:VM w (.mk 23 n t [.mk 20 n' t' ks' o' ds'] o []) x):
 Calls Tryz.prog 138 #[x] w fun e w'=>∃y,e=.returned y∧New w w'∧Dep (fun b=>w.heap.size≤b) w' (fun w=>VM w (usualV (.mk 23 n t [.mk 20 n' t' ks' o' ds'] o [])) y):=by
 obtain⟨sk,sd,rfl,hn,hks,hds⟩:=hx.inv
 obtain⟨A1,c1,rfl,-,-⟩:=hks.shape
 obtain⟨A2,c2,rfl,-,-⟩:=hds.shape
 obtain⟨d,i,rfl,-,-,-,hat⟩:=hks.at2 (by simp)
 obtain⟨a0,a1,a2,a3,a4,a5,hva,g0,g1,g2,g3,g4,g5⟩:=hat 0 (by simp)
 obtain⟨sk',sd',he,-,-,-⟩:=VM.inv hva
 simp only [Value.agg.injEq,Array.mk.injEq,List.cons.injEq,and_true]at he
 obtain⟨rfl,rfl,rfl,rfl,rfl,rfl⟩:=he
 simp only [Nat.zero_mul,Nat.add_zero]at g0 g2
 have g0A:=fun o1 o2 o3=>cell_alloc (cell_alloc (cell_alloc g0 o1) o2) o3
 have g2A:=fun o1 o2 o3=>cell_alloc (cell_alloc (cell_alloc g2 o1) o2) o3
 have g2B:=fun o1 o2 o3 o4=>cell_alloc (cell_alloc (cell_alloc (cell_alloc g2 o1) o2) o3) o4
 clear hks hds hx hat hva g0 g1 g2 g3 g4 g5
 go_enter Tryz.func138,Tryz.ntmps138
 go_wp2
 refine bodyPost_ret (v:=.agg #[.int .i64 19,.int .u64 0,.string ⟨t'.toArray⟩,.slice none 0 0,.int .i64 0,.slice none 0 0]) (by simp [results,Tryz.results138,go_sem]) rfl ⟨_,rfl,?_,?_⟩
 ·exact(((Keep.refl _ w).alloc _).alloc _).alloc _
 ·have e:usualV (.mk 23 n t [.mk 20 n' t' ks' o' ds'] o [])=.mk 19 0 t' [] 0 []:=by simp [usualV]
  rw [e]
  exact fun w2 _=>VM.mk (by omega) LM.nil LM.nil
end Go.Proofs.YtfoegolfadhmjaaGreatDoor
namespace Go.Proofs.YtfoegolfadhmjaaGreatDoor
open Go.RowKit Go.WideShapes
theorem EncW.toV{l:List V}{b:List UInt8}(h:EncW l b):(∀v∈l,v.desc=[])→EncV l b:=by
 induction h with
 | nil=>intro _;exact .nil
 | plain h hs ih=>intro hd;exact h.append (ih fun v hv=>hd v (List.mem_cons_of_mem _ hv))
 | comp0 hd' hs ih=>intro hd;exact absurd (hd _ (List.mem_cons_self ..)) (by simp [V.desc])
 | comp hd' hk hh hm hs _ ih=>intro hd;exact absurd (hd _ (List.mem_cons_self ..)) (by simp [V.desc])
theorem AbleL.noDesc{l:List V}(h:AbleL l):∀v∈l,v.desc=[]:=by
 induction h with
 | nil=>intro v hv;simp at hv
 | leaf h hs ih=>
   intro v hv
   rcases List.mem_cons.1 hv with rfl | hv
   ·cases h<;>rfl
   ·exact ih v hv
 | list hk hm hs _ ih=>exact fun v hv=>(List.mem_cons.1 hv).elim (fun e=>e▸rfl) (ih v)
 | map hk hm ok hs _ ih=>exact fun v hv=>(List.mem_cons.1 hv).elim (fun e=>e▸rfl) (ih v)
 | arr hk hm hne hs ih=>exact fun v hv=>(List.mem_cons.1 hv).elim (fun e=>e▸rfl) (ih v)
theorem AbleL.toW{l:List V}(h:AbleL l):AbleW l:=by
 have:=AbleL.mem.1 h
 clear h
 induction l with
 | nil=>exact .nil
 | cons v l ih=>exact .plain (this v (List.mem_cons_self ..)) (ih fun u hu=>this u (List.mem_cons_of_mem _ hu))
def listP(kids:List V)(body:List UInt8):List (UInt8×List UInt8):=(if kids=[]then [(69,[])]else [])++lngc 192 208 body kids.length
theorem listP_enc{kids:List V}{body:List UInt8}{o:Int}(hk:EncV kids body)(hm:kids.length≤1000)(hl:body.length+4<4294967296):∀p∈listP kids body,EncV [.mk 21 0 [] kids o []] (p.1::p.2):=by
 intro p hp
 have hp':=List.mem_append.1 hp
 clear hp
 rcases hp' with hp | hp
 ·split at hp
  ·rename_i e
   subst e
   obtain rfl:=List.mem_singleton.1 hp
   exact .list0 .nil
  ·simp at hp
 ·obtain⟨h,e,hh⟩:=lngc_hd _ _ _ _ hl (by omega) p hp
  have:=EncV.list (o:=o) hk hh hm .nil
  rw [List.append_nil,←e]at this
  exact this
theorem mapP_enc{ps:List (V×V)}{body:List UInt8}{o:Int}(hk:EncV (flat2 ps) body)(hm:2*ps.length≤1000)(ok:MapOk ps)(hl:body.length+4<4294967296):∀p∈lngc 193 209 body (flat2 ps).length,EncV [.mk 22 0 [] (flat2 ps) o []] (p.1::p.2):=by
 intro p hp
 rw [flat2_len]at hp
 obtain⟨h,e,hh⟩:=lngc_hd _ _ _ _ hl (by omega) p hp
 have:=EncV.map (o:=o) hk hh hm ok .nil
 rw [List.append_nil,←e]at this
 exact this
theorem arrP_enc{ks:List V}{code:UInt8}{data:List UInt8}{o:Int}(hk:EncA ks code data)(hm:ks.length≤1000)(hne:ks≠[])(hl:data.length+5<4294967296):∀p∈lngc 224 240 (code::data) ks.length,EncV [.mk 23 0 [] ks o []] (p.1::p.2):=by
 intro p hp
 obtain⟨h,e,hh⟩:=lngc_hd _ _ _ _ (by simp;omega) (by omega) p hp
 have:=EncV.arr (o:=o) hk hh hm hne .nil
 rw [List.append_nil,←e]at this
 exact this
theorem compP_enc{kids:List V}{body d:List UInt8}{o od:Int}{c:Nat}(hd:Leaf (.mk 5 c [] [] od []) d)(hk:EncW kids body)(hm:kids.length≤1000)(hl:body.length+4<4294967296):∀p∈listP kids body,EncW [.mk 21 0 [] kids o [.mk 5 c [] [] od []]] (0::(d++(p.1::p.2))):=by
 intro p hp
 have hp':=List.mem_append.1 hp
 clear hp
 rcases hp' with hp | hp
 ·split at hp
  ·rename_i e
   subst e
   obtain rfl:=List.mem_singleton.1 hp
   have:=EncW.comp0 (o:=o) hd .nil
   rw [List.append_nil]at this
   exact this
  ·simp at hp
 ·obtain⟨h,e,hh⟩:=lngc_hd _ _ _ _ hl (by omega) p hp
  have:=EncW.comp (o:=o) hd hk hh hm .nil
  rw [List.append_nil,←e]at this
  exact this
theorem Tidy.of_leafs:∀{l:List V},(∀v∈l,LeafOk v)→Tidy l
 | [],_=>.nil
 | v::l,h=>by
   have h1:=h v (List.mem_cons_self ..)
   have h2:=Tidy.of_leafs fun u hu=>h u (List.mem_cons_of_mem _ hu)
   cases h1<;>exact .cons (fun _=>rfl) .nil h2
theorem AbleL.tidy{l:List V}(h:AbleL l):Tidy l:=by
 induction h with
 | nil=>exact .nil
 | leaf h hs ih=>cases h<;>exact .cons (fun _=>rfl) .nil ih
 | list hk hm hs ih1 ih2=>exact .cons (fun h=>absurd h (by omega)) ih1 ih2
 | map hk hm ok hs ih1 ih2=>exact .cons (fun h=>absurd h (by omega)) ih1 ih2
 | arr hk hm hne hs ih=>exact .cons (fun h=>absurd h (by omega)) (Tidy.of_leafs fun v hv=>(hk.all v hv).2.1) ih
theorem Sims.tidy{l m:List V}(h:Sims l m):Tidy m:=by
 induction h with
 | nil=>exact .nil
 | leaf hk hk' h0 hs ih=>exact .cons (fun _=>rfl) .nil ih
 | list hk hs ih1 ih2=>exact .cons (fun h=>absurd h (by omega)) ih1 ih2
 | map hp h1 hk hs ih1 ih2=>exact .cons (fun h=>absurd h (by omega)) ih1 ih2
 | arr hk h1 hsk hs ih1 ih2=>exact .cons (fun h=>absurd h (by omega)) ih1 ih2
theorem Tidy.noD{l:List V}(h:Tidy l):NoD l:=by
 induction h with
 | nil=>exact .nil
 | cons h1 hk hs ih1 ih2=>exact .cons ih1 ih2
theorem NoD.mem{l:List V}:(∀v∈l,NoD [v])→NoD l:=by
 induction l with
 | nil=>intro _;exact .nil
 | cons v l ih=>
   intro h
   have h1:=h v (List.mem_cons_self ..)
   cases h1 with
   | cons hk _=>exact .cons hk (ih fun u hu=>h u (List.mem_cons_of_mem _ hu))
theorem NoD.usual(N:Nat):∀v,cnt v≤N→NoD [v]→NoD [usualV v]:=by
 induction N with
 | zero=>intro v h;obtain⟨k,n,t,ks,o,ds⟩:=v;simp [cnt]at h
 | succ N ih=>
   intro v hN h
   obtain⟨k,n,t,ks,o,rfl,hk⟩:=h.inv
   ·have hall:∀u∈ks,NoD [u]:=by
     intro u hu
     obtain⟨j,hj,rfl⟩:=List.mem_iff_getElem.1 hu
     exact hk.get j hj
    have hU:NoD (usualVs ks):=by
     rw [usualVs_map]
     refine NoD.mem fun u hu=>?_
     obtain⟨u0,h0,rfl⟩:=List.mem_map.1 hu
     obtain⟨j,hj,rfl⟩:=List.mem_iff_getElem.1 h0
     have:=cnts_get ks j hj
     simp only [cnt]at hN
     exact ih _ (by omega) (hall _ (List.getElem_mem hj))
    unfold usualV
    split
    ·split
     ·exact .cons .nil .nil
     ·exact .cons hU .nil
    ·split
     ·exact .cons hU .nil
     ·rw [if_neg (by simp)]
      exact .cons hU .nil
theorem cnt_usual(N:Nat):∀v,cnt v≤N→cnt (usualV v)≤cnt v:=by
 have trim:∀l:List V,cnts (trimR l)≤cnts l:=by
  intro l
  induction l with
  | nil=>simp [trimR]
  | cons a l ih=>
    unfold trimR
    split
    ·rename_i h
     split
     ·simp [cnts]
     ·rename_i h2
      simp only [cnts]
      omega
    ·rename_i u s h
     rw [h]at ih
     simp only [cnts]at ih ⊢
     omega
 induction N with
 | zero=>intro v h;obtain⟨k,n,t,ks,o,ds⟩:=v;simp [cnt]at h
 | succ N ih=>
   intro v hN
   obtain⟨k,n,t,ks,o,ds⟩:=v
   have hU:∀l:List V,cnts l≤N→cnts (usualVs l)≤cnts l:=by
    intro l
    induction l with
    | nil=>simp [usualVs]
    | cons a l ihl=>
      intro hl
      simp only [cnts,usualVs]at hl ⊢
      have:=ih a (by omega)
      have:=ihl (by omega)
      omega
   simp only [cnt]at hN
   have hk:=hU ks (by omega)
   have ht:=trim (usualVs ks)
   unfold usualV
   split
   ·rename_i k' n' t' ks' o' ds' us _ h
    split
    ·simp only [cnt,cnts];omega
    ·simp only [cnt]at hk ⊢;omega
   ·rename_i us h1 h2
    split
    ·simp only [cnt]at hk ⊢;omega
    ·split
     ·simp only [cnt]at hk ⊢;omega
     ·simp only [cnt]at hk ⊢;omega
end Go.Proofs.YtfoegolfadhmjaaGreatDoor
