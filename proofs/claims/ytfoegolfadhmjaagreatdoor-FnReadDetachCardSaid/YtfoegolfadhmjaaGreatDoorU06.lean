/- impl.valued at arrays. impl.valued makes of an array, and of a plain value, what was written. impl.textPairs: maps whose keys are texts, as keys and values by turns. impl.valued at lists and maps, by what the walk within gives. impl.valued at whatever was read: what was written, as it is compared. Composite values off the buffer: the header, the fields one by one. UnmarshalComposite, for whatever fields. Unmarshal at pointers to plain values, to texts, to maps. Unmarshal at pointers whose types have an Unmarshal of their own. An error off the buffer. An error off the buffer: its three fields. What was read of an error, as the program's own. An error, read whole. What is written to a buffer of one's own: the appending of bytes, and of numbers. What is written to a buffer of one's own: numbers, texts, times, uuids. What is written to a buffer of one's own: texts, times, uuids; and what was written. encoding.Marshal at the values that may be keys. -/
import Derived.Test.YtfoegolfadhmjaaGreatDoorU02
import Derived.Test.YtfoegolfadhmjaaGreatDoorU03
import Derived.Test.YtfoegolfadhmjaaGreatDoorU05
import Derived.Laws.EntriesVeiled
import Derived.Recover
import Derived.Lib.AppendStr
import Derived.Lib.ValidLaws
set_option linter.unusedVariables false
set_option linter.unusedSimpArgs false
set_option maxRecDepth 100000
set_option maxHeartbeats 40000000
namespace Go.Proofs.YtfoegolfadhmjaaGreatDoor
open Go.RowKit Go.WideShapes
theorem own_base{w:World}{base base' n:Nat}{v:Value}{xs:List Value}(h:w.ownsRow base 78 6 v n xs)(hb:base'≤base):w.ownsRow base' 78 6 v n xs:=by
 obtain⟨h1,h2⟩:=h
 refine⟨h1,?_⟩
 rcases h2 with h2 | ⟨g,cap,cur,hv,hg,hr⟩
 ·exact .inl h2
 ·exact .inr ⟨g,cap,cur,hv,Nat.le_trans hb hg,hr⟩
theorem varr(T:TypeId)(F C:FuncId)(K:Int)(hq:(T,F,C,K)∈[(313,153,147,1),(315,154,155,2),(51,156,157,3),(320,158,159,4),(323,160,161,5),(326,162,163,6),(329,164,165,7),(332,166,167,8),(335,168,169,9),(338,170,171,10),(341,172,149,11),(343,173,174,16),(346,175,176,17),(349,177,178,18),(52,179,180,19)])(A0:Option Addr)(l0 c0 n:Nat)(cells:List Value)(w:World)
 (hcall:∀w1,New w w1→Calls Tryz.prog F #[.int .i64 K,.slice A0 l0 c0,.func (.func C) #[] #[]] w1 fun e w'=>∃sk,e=.returned (.agg #[.int .i64 23,.int .u64 0,.string ⟨#[]⟩,sk,.int .i64 K,.slice none 0 0])∧New w1 w'∧w'.ownsRow (w1.heap.size+2) 78 6 sk n cells):
 Calls Tryz.prog 91 #[.iface T (.slice A0 l0 c0)] w fun e w'=>∃sk,e=.returned (.tuple #[.agg #[.int .i64 23,.int .u64 0,.string ⟨#[]⟩,sk,.int .i64 K,.slice none 0 0],.bool true])∧New w w'∧w'.ownsRow w.heap.size 78 6 sk n cells:=by
 have HC:=Lib.hid hcall
 clear hcall
 obtain⟨k0,hk0⟩:∃k0,k0=K:=⟨_,rfl⟩
 simp only [List.mem_cons,List.mem_nil_iff,or_false,Prod.mk.injEq]at hq
 rcases hq with⟨rfl,rfl,rfl,rfl⟩ | ⟨rfl,rfl,rfl,rfl⟩ | ⟨rfl,rfl,rfl,rfl⟩ | ⟨rfl,rfl,rfl,rfl⟩ | ⟨rfl,rfl,rfl,rfl⟩ | ⟨rfl,rfl,rfl,rfl⟩ | ⟨rfl,rfl,rfl,rfl⟩ | ⟨rfl,rfl,rfl,rfl⟩ | ⟨rfl,rfl,rfl,rfl⟩ | ⟨rfl,rfl,rfl,rfl⟩ | ⟨rfl,rfl,rfl,rfl⟩ | ⟨rfl,rfl,rfl,rfl⟩ | ⟨rfl,rfl,rfl,rfl⟩ | ⟨rfl,rfl,rfl,rfl⟩ | ⟨rfl,rfl,rfl,rfl⟩
 all_goals
  go_enter Tryz.func91,Tryz.ntmps91
  go_wp2_with fail
  refine(HC.out _ ((Keep.refl _ w).alloc _)).mono ?_
  rintro e w1 ⟨sk,rfl,k1,hown⟩
  obtain⟨A,cc,rfl⟩:=own_shape hown
  have k2:=(((Keep.refl (fun _=>True) w).alloc _).trans k1)
  have hb:=k1.blk (blk_new w _) trivial
  have c0:=(blk_cell hb 0).trans rfl
  have c1:=(blk_cell hb 1).trans rfl
  have c2:=(blk_cell hb 2).trans rfl
  have c3:=(blk_cell hb 3).trans rfl
  have c4:=(blk_cell hb 4).trans rfl
  have c5:=(blk_cell hb 5).trans rfl
  have f0:=blk_free hb 0
  have f1:=blk_free hb 1
  have f2:=blk_free hb 2
  have f3:=blk_free hb 3
  have f4:=blk_free hb 4
  have f5:=blk_free hb 5
  have HO:=Lib.hid hown
  clear hb hown
  go_wp2
  refine bodyPost_ret (v:=.tuple #[.agg #[.int .i64 23,.int .u64 0,.string ⟨#[]⟩,.slice A n cc,.int .i64 k0,.slice none 0 0],.bool true]) (by simp [results,Tryz.results91,go_sem,c0,c1,c2,c3,c4,c5,hk0]) rfl ⟨_,by rw [hk0],?_,?_⟩
  ·repeat (refine Keep.setCell ?_ (Or.inl (b:=¬True) (Nat.le_refl _)) _)
   exact k2
  ·have h:=HO.out
   simp only [World.size_alloc]at h
   refine own_base (base:=w.heap.size+1+2) (own_near h ?_) (by omega)
   repeat (refine Keep.setCell ?_ (Or.inr (by simp<;>omega)) _)
   exact Keep.refl _ _
end Go.Proofs.YtfoegolfadhmjaaGreatDoor
namespace Go.Proofs.YtfoegolfadhmjaaGreatDoor
open Go.RowKit Go.WideShapes
theorem flat1{α:Type}(g:α→Value)(l:List α):(l.map fun v=>[g v]).flatten=l.map g:=by
 induction l with
 | nil=>rfl
 | cons a r ih=>simp [ih]
theorem sims_plain{k:Int}(hk:k<20):∀(l:List V),(∀v∈l,v.kind=k∧LeafOk v)→Sims l (plainKids k (l.map fun v=>(v.num,v.text)))
 | [],_=>.nil
 | v::l,h=>by
   obtain⟨h1,h2⟩:=h v (List.mem_cons_self ..)
   have ih:=sims_plain hk l fun u hu=>h u (List.mem_cons_of_mem _ hu)
   have e:=h2.plain
   rw [h1]at e
   have:=Sims.leaf (k:=k) (k':=k) (n:=v.num) (t:=v.text) (o:=v.of) (o':=0) (by omega) (.inl rfl) (fun h=>by omega) ih
   rw [←e]at this
   exact this
theorem plainKids_len(k:Int)(l:List (Nat×List UInt8)):(plainKids k l).length=l.length:=by simp [plainKids]
theorem LeafOk.num{v:V}(h:LeafOk v):v.num<18446744073709551616:=by
 cases h<;>simp only [V.num]<;>first | omega | (rename_i h;have:=h.1;omega)
theorem arr_out{w w':World}{k:Int}(hk:k<20)(l:List V)(o:Int)(h:∀v∈l,v.kind=k∧LeafOk v)(sk:Value)(hown:w'.ownsRow w.heap.size 78 6 sk l.length (plainCells k (l.map fun v=>(v.num,v.text)))):
 ∃u,Sims [.mk 23 0 [] l o []] [u]∧Dep (fun b=>w.heap.size≤b) w' (fun w=>VM w u (.agg #[.int .i64 23,.int .u64 0,.string ⟨#[]⟩,sk,.int .i64 k,.slice none 0 0])):=by
 refine⟨.mk 23 0 [] (plainKids k (l.map fun v=>(v.num,v.text))) k [],.arr hk (fun v hv=>(h v hv).1) (sims_plain hk l h) .nil,?_⟩
 have hrow:RowV w' w.heap.size sk (plainKids k (l.map fun v=>(v.num,v.text))):=⟨_,by rw [plainKids_len,List.length_map];exact hown,fun w2 _=>plain_mem w2 k _ fun x hx=>by
  obtain⟨v,hv,rfl⟩:=List.mem_map.1 hx
  exact(h v hv).2.num⟩
 exact hrow.out.imp fun _ h=>VM.mk (by omega) h LM.nil
theorem num_xs{l:List V}(h:∀v∈l,v.text=[]):(l.map V.num).map (fun x=>(x,([]:List UInt8)))=l.map fun v=>(v.num,v.text):=by
 rw [List.map_map]
 exact List.map_congr_left fun v hv=>by simp [h v hv]
theorem text_xs{l:List V}(h:∀v∈l,v.num=0):(l.map V.text).map (fun x=>((0:Nat),x))=l.map fun v=>(v.num,v.text):=by
 rw [List.map_map]
 exact List.map_congr_left fun v hv=>by simp [h v hv]
theorem LeafOk.facts{v:V}(h:LeafOk v):(v.kind<17→v.text=[])∧(17≤v.kind→v.num=0)∧(v.kind=1→v.num≤1)∧(v.kind=2→v.num<256)∧(v.kind=3→v.num<65536)∧(v.kind=4∨v.kind=10→v.num<4294967296)∧(v.kind=6→Fits 8 v.num)∧(v.kind=7→Fits 16 v.num)∧(v.kind=8→Fits 32 v.num)∧(v.kind=9→Fits 64 v.num)∧(v.kind=17→v.text.length=16):=by
 cases h<;>simp only [V.kind,V.num,V.text]<;>refine⟨?_,?_,?_,?_,?_,?_,?_,?_,?_,?_,?_⟩<;>intro hk<;>first | trivial | rfl | assumption | omega | (exfalso;revert hk;decide)
theorem valued_arr{w:World}{l:List V}{x:Value}(h:GArr w l x)(hne:l≠[])(hmax:l.length≤1000){k:Int}(hk:k<20)(hok:∀v∈l,v.kind=k∧LeafOk v)(o:Int):ValOK w (.mk 23 0 [] l o []) x:=by
 have key:∀k',Plain k' l→k'=k:=fun k' hp=>by
  obtain⟨a,r,rfl⟩:=List.exists_cons_of_ne_nil hne
  obtain⟨n,t,o',e⟩:=hp a (List.mem_cons_self ..)
  have:=(hok a (List.mem_cons_self ..)).1
  rw [e]at this
  exact this
 intro w1 kw
 have fin:∀(K:Int),K=k→(∃xs,xs=l.map (fun v=>(v.num,v.text))∧Calls Tryz.prog 91 #[x] w1 fun e w'=>∃sk,e=.returned (.tuple #[.agg #[.int .i64 23,.int .u64 0,.string ⟨#[]⟩,sk,.int .i64 K,.slice none 0 0],.bool true])∧New w1 w'∧w'.ownsRow w1.heap.size 78 6 sk l.length (plainCells K xs))→
  Calls Tryz.prog 91 #[x] w1 fun e w2=>∃y u,e=.returned (.tuple #[y,.bool true])∧New w1 w2∧Sims [.mk 23 0 [] l o []] [u]∧Dep (fun b=>w1.heap.size≤b) w2 (fun w=>VM w u y):=by
  rintro K rfl ⟨xs,rfl,hc⟩
  refine hc.mono ?_
  rintro e w' ⟨sk,rfl,k',hown⟩
  obtain⟨u,hu1,hu2⟩:=arr_out hk l o hok sk hown
  exact⟨_,u,rfl,k',hu1,hu2⟩
 have T:k<17→∀v∈l,v.text=[]:=fun h v hv=>(hok v hv).2.facts.1 (by rw [(hok v hv).1];exact h)
 have Z:17≤k→∀v∈l,v.num=0:=fun h v hv=>(hok v hv).2.facts.2.1 (by rw [(hok v hv).1];exact h)
 have ln:(l.map V.num).length≤1000:=by simpa using hmax
 have lt:(l.map V.text).length≤1000:=by simpa using hmax
 cases h with
 | cells hT hp hs=>
   obtain⟨d,n,rfl,hc,hd⟩:=hs
   have e:=key _ hp
   cases hT with
   | bool=>
     rw [flat1]at hd hc
     have hn:n=(l.map V.num).length:=by simp at hc ⊢;omega
     subst hn
     refine fin 1 e ⟨_,num_xs (T (by omega)),varr 313 153 147 1 (by simp) _ _ _ _ _ w1 fun w2 k2=>?_⟩
     have:=numbered 153 147 4 (by simp) (fun x=>.bool (x !=0)) (fun x=>x≤1) (fun _ h=>by omega) litFlag 1 (l.map V.num) (fun x hx=>by obtain⟨v,hv,rfl⟩:=List.mem_map.1 hx;exact(hok v hv).2.facts.2.2.1 (by rw [(hok v hv).1];exact e.symm)) ln d w2 ((kw.trans k2).blk (by simpa [List.map_map,Function.comp_def]using hd) trivial)
     simpa using this
   | u16=>
     rw [flat1]at hd hc
     have hn:n=(l.map V.num).length:=by simp at hc ⊢;omega
     subst hn
     refine fin 3 e ⟨_,num_xs (T (by omega)),varr 51 156 157 3 (by simp) _ _ _ _ _ w1 fun w2 k2=>?_⟩
     have:=numbered 156 157 117 (by simp) (fun x=>.int .u16 (x:Int)) (fun x=>x<65536) (fun _ h=>by omega) lit157 3 (l.map V.num) (fun x hx=>by obtain⟨v,hv,rfl⟩:=List.mem_map.1 hx;exact(hok v hv).2.facts.2.2.2.2.1 (by rw [(hok v hv).1];exact e.symm)) ln d w2 ((kw.trans k2).blk (by simpa [List.map_map,Function.comp_def]using hd) trivial)
     simpa using this
   | u32=>
     rw [flat1]at hd hc
     have hn:n=(l.map V.num).length:=by simp at hc ⊢;omega
     subst hn
     refine fin 4 e ⟨_,num_xs (T (by omega)),varr 320 158 159 4 (by simp) _ _ _ _ _ w1 fun w2 k2=>?_⟩
     have:=numbered 158 159 22 (by simp) (fun x=>.int .u32 (x:Int)) (fun x=>x<4294967296) (fun _ h=>by omega) lit159 4 (l.map V.num) (fun x hx=>by obtain⟨v,hv,rfl⟩:=List.mem_map.1 hx;exact(hok v hv).2.facts.2.2.2.2.2.1 (.inl (by rw [(hok v hv).1];exact e.symm))) ln d w2 ((kw.trans k2).blk (by simpa [List.map_map,Function.comp_def]using hd) trivial)
     simpa using this
   | u64=>
     rw [flat1]at hd hc
     have hn:n=(l.map V.num).length:=by simp at hc ⊢;omega
     subst hn
     refine fin 5 e ⟨_,num_xs (T (by omega)),varr 323 160 161 5 (by simp) _ _ _ _ _ w1 fun w2 k2=>?_⟩
     have:=numbered 160 161 26 (by simp) (fun x=>.int .u64 (x:Int)) (fun x=>x<18446744073709551616) (fun _ h=>h) lit161 5 (l.map V.num) (fun x hx=>by obtain⟨v,hv,rfl⟩:=List.mem_map.1 hx;exact(hok v hv).2.num) ln d w2 ((kw.trans k2).blk (by simpa [List.map_map,Function.comp_def]using hd) trivial)
     simpa using this
   | i8=>
     rw [flat1]at hd hc
     have hn:n=(l.map V.num).length:=by simp at hc ⊢;omega
     subst hn
     refine fin 6 e ⟨_,num_xs (T (by omega)),varr 326 162 163 6 (by simp) _ _ _ _ _ w1 fun w2 k2=>?_⟩
     have:=numbered 162 163 191 (by simp) (fun x=>.int .i8 (sgn x)) (fun x=>Fits 8 x) (fun _ h=>h.1) lit163 6 (l.map V.num) (fun x hx=>by obtain⟨v,hv,rfl⟩:=List.mem_map.1 hx;exact(hok v hv).2.facts.2.2.2.2.2.2.1 (by rw [(hok v hv).1];exact e.symm)) ln d w2 ((kw.trans k2).blk (by simpa [List.map_map,Function.comp_def]using hd) trivial)
     simpa using this
   | i16=>
     rw [flat1]at hd hc
     have hn:n=(l.map V.num).length:=by simp at hc ⊢;omega
     subst hn
     refine fin 7 e ⟨_,num_xs (T (by omega)),varr 329 164 165 7 (by simp) _ _ _ _ _ w1 fun w2 k2=>?_⟩
     have:=numbered 164 165 195 (by simp) (fun x=>.int .i16 (sgn x)) (fun x=>Fits 16 x) (fun _ h=>h.1) lit165 7 (l.map V.num) (fun x hx=>by obtain⟨v,hv,rfl⟩:=List.mem_map.1 hx;exact(hok v hv).2.facts.2.2.2.2.2.2.2.1 (by rw [(hok v hv).1];exact e.symm)) ln d w2 ((kw.trans k2).blk (by simpa [List.map_map,Function.comp_def]using hd) trivial)
     simpa using this
   | i32=>
     rw [flat1]at hd hc
     have hn:n=(l.map V.num).length:=by simp at hc ⊢;omega
     subst hn
     refine fin 8 e ⟨_,num_xs (T (by omega)),varr 332 166 167 8 (by simp) _ _ _ _ _ w1 fun w2 k2=>?_⟩
     have:=numbered 166 167 21 (by simp) (fun x=>.int .i32 (sgn x)) (fun x=>Fits 32 x) (fun _ h=>h.1) lit167 8 (l.map V.num) (fun x hx=>by obtain⟨v,hv,rfl⟩:=List.mem_map.1 hx;exact(hok v hv).2.facts.2.2.2.2.2.2.2.2.1 (by rw [(hok v hv).1];exact e.symm)) ln d w2 ((kw.trans k2).blk (by simpa [List.map_map,Function.comp_def]using hd) trivial)
     simpa using this
   | i64=>
     rw [flat1]at hd hc
     have hn:n=(l.map V.num).length:=by simp at hc ⊢;omega
     subst hn
     refine fin 9 e ⟨_,num_xs (T (by omega)),varr 335 168 169 9 (by simp) _ _ _ _ _ w1 fun w2 k2=>?_⟩
     have:=numbered 168 169 2 (by simp) (fun x=>.int .i64 (sgn x)) (fun x=>Fits 64 x) (fun _ h=>h.1) lit169 9 (l.map V.num) (fun x hx=>by obtain⟨v,hv,rfl⟩:=List.mem_map.1 hx;exact(hok v hv).2.facts.2.2.2.2.2.2.2.2.2.1 (by rw [(hok v hv).1];exact e.symm)) ln d w2 ((kw.trans k2).blk (by simpa [List.map_map,Function.comp_def]using hd) trivial)
     simpa using this
   | f32=>
     rw [flat1]at hd hc
     have hn:n=(l.map V.num).length:=by simp at hc ⊢;omega
     subst hn
     refine fin 10 e ⟨_,num_xs (T (by omega)),varr 338 170 171 10 (by simp) _ _ _ _ _ w1 fun w2 k2=>?_⟩
     have:=numbered 170 171 212 (by simp) (fun x=>.float .f32 x) (fun x=>x<4294967296) (fun _ h=>by omega) lit171 10 (l.map V.num) (fun x hx=>by obtain⟨v,hv,rfl⟩:=List.mem_map.1 hx;exact(hok v hv).2.facts.2.2.2.2.2.1 (.inr (by rw [(hok v hv).1];exact e.symm))) ln d w2 ((kw.trans k2).blk (by simpa [List.map_map,Function.comp_def]using hd) trivial)
     simpa using this
   | f64=>
     rw [flat1]at hd hc
     have hn:n=(l.map V.num).length:=by simp at hc ⊢;omega
     subst hn
     refine fin 11 e ⟨_,num_xs (T (by omega)),varr 341 172 149 11 (by simp) _ _ _ _ _ w1 fun w2 k2=>?_⟩
     have:=numbered_f64 11 (l.map V.num) (fun x hx=>by obtain⟨v,hv,rfl⟩:=List.mem_map.1 hx;exact(hok v hv).2.num) ln d w2 ((kw.trans k2).blk (by simpa [List.map_map,Function.comp_def]using hd) trivial)
     simpa using this
   | time=>
     have hfl:=(flatF (F:=fun v:V=>timeC (sgn v.num)) (sz:=2) (fun _=>rfl) l).1
     have hn:n=(l.map V.num).length:=by rw [hfl]at hc;simp;omega
     subst hn
     refine fin 16 e ⟨_,num_xs (T (by omega)),varr 343 173 174 16 (by simp) _ _ _ _ _ w1 fun w2 k2=>?_⟩
     have:=numbered_time 16 (l.map V.num) (fun x hx=>by obtain⟨v,hv,rfl⟩:=List.mem_map.1 hx;exact(hok v hv).2.num) ln d w2 ((kw.trans k2).blk (by simpa [List.map_map,Function.comp_def]using hd) trivial)
     simpa using this
   | uuid=>
     have h16:∀v∈l,v.text.length=16:=fun v hv=>(hok v hv).2.facts.2.2.2.2.2.2.2.2.2.2 (by rw [(hok v hv).1];exact e.symm)
     have hfl:=(flatF' (F:=fun v:V=>uuidC v.text) (sz:=16) l (fun v hv=>by simp [uuidC,h16 v hv])).1
     have hn:n=(l.map V.text).length:=by rw [hfl]at hc;simp;omega
     subst hn
     refine fin 17 e ⟨_,text_xs (Z (by omega)),varr 346 175 176 17 (by simp) _ _ _ _ _ w1 fun w2 k2=>?_⟩
     have:=worded_uuid 17 (l.map V.text) (fun x hx=>by obtain⟨v,hv,rfl⟩:=List.mem_map.1 hx;exact h16 v hv) lt d w2 ((kw.trans k2).blk (by simpa [List.map_map,Function.comp_def]using hd) trivial)
     simpa using this
   | str=>
     rw [flat1]at hd hc
     have hn:n=(l.map V.text).length:=by simp at hc ⊢;omega
     subst hn
     refine fin 19 e ⟨_,text_xs (Z (by omega)),varr 52 179 180 19 (by simp) _ _ _ _ _ w1 fun w2 k2=>?_⟩
     have:=worded_str 19 (l.map V.text) lt d w2 ((kw.trans k2).blk (by simpa [List.map_map,Function.comp_def]using hd) trivial)
     simpa using this
   | sym=>omega
 | ubyte hp hs=>
   have e:=key _ hp
   obtain⟨A,c,rfl,h1,h2,h3⟩:=hs
   obtain⟨d,i,rfl,hb⟩:=h3 (by simpa using hne)
   have hx:(l.map fun v=>UInt8.ofNat v.num).map (fun x=>(x.toNat,([]:List UInt8)))=l.map fun v=>(v.num,v.text):=by
    rw [List.map_map]
    refine List.map_congr_left fun v hv=>?_
    have h:=(hok v hv).2.facts.2.2.2.1 (by rw [(hok v hv).1];exact e.symm)
    have ht:=T (by omega) v hv
    simp [ht]
    omega
   refine fin 2 e ⟨_,hx,varr 315 154 155 2 (by simp) _ _ _ _ _ w1 fun w2 k2=>?_⟩
   have:=numbered_u8 2 (l.map fun v=>UInt8.ofNat v.num) (by simpa using hmax) d i c h1 h2 w2 (hb.new (kw.trans k2))
   simpa using this
 | bin hp hs=>
   have e:=key _ hp
   obtain⟨d,cs,rfl,hd,hsz,hat⟩:=hs
   refine fin 18 e ⟨_,text_xs (Z (by omega)),varr 349 177 178 18 (by simp) _ _ _ _ _ w1 fun w2 k2=>?_⟩
   have:=worded_bin 18 (l.map V.text) lt w2 d cs (fun j hj=>by
    obtain⟨u,hu,hs⟩:=hat j hj
    exact⟨u,hu,hs.new (kw.trans k2)⟩) ((kw.trans k2).blk hd trivial)
   simpa using this
end Go.Proofs.YtfoegolfadhmjaaGreatDoor
namespace Go.Proofs.YtfoegolfadhmjaaGreatDoor
open Go.RowKit Go.WideShapes
structure TMap(w:World)(m:Nat)(es:Array MapEntry)(clock:Nat)(ps:List (V×V)):Prop where
 here:w.heap[m]? =some (.map es clock)
 born:Born es clock
 size:es.size=ps.length
 key:∀j (hj:j<ps.length) (he:j<es.size),es[j].key=.string ⟨ps[j].1.text.toArray⟩
 val:∀j (hj:j<ps.length) (he:j<es.size),ValOK w ps[j].2 es[j].val
 once:(ps.map fun q=>q.1.text).Nodup
theorem TMap.keys{w:World}{m:Nat}{es:Array MapEntry}{clock:Nat}{ps:List (V×V)}(h:TMap w m es clock ps):es.toList.map (·.key)=(ps.map fun q=>q.1.text).map fun t=>Value.string ⟨t.toArray⟩:=by
 apply List.ext_getElem
 ·simp [h.size]
 ·intro j h1 h2
  simp only [List.getElem_map,Array.getElem_toList]
  exact h.key j (by simpa using h2) (by simpa using h1)
theorem TMap.keys_once{w:World}{m:Nat}{es:Array MapEntry}{clock:Nat}{ps:List (V×V)}(h:TMap w m es clock ps):(es.toList.map (·.key)).Nodup:=by
 rw [h.keys]
 refine List.Pairwise.map _ (fun a b hab e=>hab ?_) h.once
 injection e with e
 injection e with e
 simpa using e
theorem TMap.text{w:World}{m:Nat}{es:Array MapEntry}{clock:Nat}{ps:List (V×V)}(h:TMap w m es clock ps):∀e∈es.toList,∃t:List UInt8,e.key=.string ⟨t.toArray⟩:=fun e he=>by
 have:e.key∈es.toList.map (·.key):=List.mem_map.2 ⟨e,he,rfl⟩
 rw [h.keys]at this
 obtain⟨t,_,ht⟩:=List.mem_map.1 this
 exact⟨t,ht.symm⟩
theorem map_inj{α β:Type}{f:α→β}(inj:∀x y,f x=f y→x=y):∀{l m:List α},l.map f=m.map f→l=m
 | [],[],_=>rfl
 | [],_::_,h=>by simp at h
 | _::_,[],h=>by simp at h
 | x::l,y::m,h=>by
   simp only [List.map_cons,List.cons.injEq]at h
   rw [inj _ _ h.1,map_inj inj h.2]
theorem perm_of_map{α β:Type}{f:α→β}(inj:∀x y,f x=f y→x=y){l m:List α}(h:(l.map f).Perm (m.map f)):l.Perm m:=by
 obtain⟨qs,h1,h2⟩:=lift_perm f (l.map f) m h
 rw [←map_inj inj h2]
 exact h1.symm
theorem flat2_take_succ(ps:List (V×V))(j:Nat)(hj:j<ps.length):flat2 (ps.take (j+1))=flat2 (ps.take j)++[ps[j].1,ps[j].2]:=by
 induction ps generalizing j with
 | nil=>simp at hj
 | cons q ps ih=>
   cases j with
   | zero=>rfl
   | succ j=>
     simp only [List.take_succ_cons,flat2,List.getElem_cons_succ]
     rw [ih j (by simpa using hj)]
     rfl
theorem textPairs_str(k:Int)(hk:k=19∨k=20)(m:Nat)(es:Array MapEntry)(clock:Nat)(ps:List (V×V))(w:World)(hM:TMap w m es clock ps)(hmax:ps.length≤1000)(hkey:∀q∈ps,∃k0 o,q.1=.mk k0 0 q.1.text [] o []∧(k0=k∨k0=20∧k=19)):
 Calls Tryz.prog 81 #[.int .i64 k,.map (some m)] w fun e w'=>∃s us qs,e=.returned (.tuple #[s,.bool true])∧New w w'∧ps.Perm qs∧Sims (flat2 qs) us∧us.length=2*ps.length∧Dep (fun b=>w.heap.size≤b) w' (fun w=>LM w us s):=by
 have hrg:=range_map w 96 9 20 m es clock Tryz.underlying96 hM.here
 have HM:=Lib.hid hM
 have HKEY:=Lib.hid hkey
 have HKK:=Lib.hid hk
 have hpl:es.size=ps.length:=hM.size
 clear hM hkey hk
 go_enter Tryz.func81,Tryz.ntmps81
 go_wp2_with fail
 have hlt:=lt_blk HM.out.here
 go_loopg [6] es.size (fun kk s6 wr=>New w wr∧∃(seen:Array Nat) (c:Nat) (picked:List MapEntry) (ts:List (List UInt8)),wr.heap[w.heap.size]? =some (.mapIter (some m) clock seen c)∧clock≤c∧(leftOf es seen).size≤kk∧es.toList.Perm (picked++(leftOf es seen).toList)∧picked.map (·.key)=(ts.map fun t=>Value.string ⟨t.toArray⟩)∧RowS wr (w.heap.size+1) s6 ts)
 case atStart=>
  refine⟨(Keep.refl _ _).alloc _,#[],clock,[],[],blk_new _ _,Nat.le_refl _,?_,?_,rfl,RowS.nil⟩
  ·unfold leftOf
   exact Array.size_filter_le ..
  ·have:leftOf es #[]=es:=by
    unfold leftOf
    exact Array.filter_eq_self.2 (by simp)
   rw [this]
   exact List.Perm.refl _
 case round=>
  obtain⟨kr,seen,c,picked,ts,hit,hcl,hleft,hpk,hpt,hrow⟩:=hrel
  have hbr:=kr.blk HM.out.here trivial
  have LF:=Lib.hid hleft
  have PK:=Lib.hid hpk
  have PT:=Lib.hid hpt
  have hlen:ts.length≤ps.length:=by
   have h1:=congrArg List.length hpt
   have h2:=hpk.length_eq
   simp at h1 h2
   omega
  clear hleft hpk hpt
  obtain⟨A6,c6,rfl⟩:=hrow.shape
  have hits:=lt_blk hit
  rcases next_map wr w.heap.size m clock c seen es clock hit hbr HM.out.born.2 hcl with⟨h0,hnx⟩ | ⟨e,he,w1,hnx,hit1,k1⟩
  ·have hperm:ts.Perm (ps.map fun q=>q.1.text):=by
    have h1:=PK.out
    rw [List.eq_nil_of_length_eq_zero (l:=(leftOf es seen).toList) (by simpa using h0),List.append_nil]at h1
    have h2:=h1.map (·.key)
    rw [PT.out,HM.out.keys]at h2
    have inj:∀x y:List UInt8,Value.string ⟨x.toArray⟩=Value.string ⟨y.toArray⟩→x=y:=fun x y hxy=>by
     injection hxy with hxy
     injection hxy with hxy
     simpa using hxy
    exact(perm_of_map inj h2).symm
   have HP:=Lib.hid hperm
   clear hperm h0 hrg
   have fin:Calls Tryz.prog 90 #[.slice A6 ts.length c6] wr fun e w'=>e=.returned (.tuple #[])∧New w w'∧∃ts':List (List UInt8),ts'.Perm ts∧∀w2,New w' w2→∀j (hj:j<ts'.length),∃g,A6=some ⟨g,0,none⟩∧w2.cell? ⟨g,j,none⟩=some (.string ⟨ts'[j].toArray⟩):=by
    rcases hrow.cases with⟨he,hts⟩ | ⟨g,cap,cur,he,hg,hb,hat⟩
    ·subst hts
     injection he with e1 e2 e3
     subst e1;subst e3
     refine(Tryz.sort_Strings_none none 0 wr).mono ?_
     rintro e w' ⟨rfl,rfl⟩
     exact⟨rfl,kr,[],List.Perm.refl _,fun w2 _ j hj=>absurd hj (by simp)⟩
    ·injection he with e1 e2 e3
     subst e1;subst e3
     refine(sort_texts g c6 cur ts wr hb hat (by omega)).mono ?_
     rintro e w' ⟨rfl,ks,ts',cur',hp,hb',hat'⟩
     exact⟨rfl,kr.then ks (fun i hi _=>by omega),ts',hp,fun w2 k2 j hj=>⟨g,rfl,by rw [blk_cell (k2.blk hb' trivial)];exact hat' j hj⟩⟩
   have FIN:=Lib.hid fin
   clear fin hit hrow
   go_wp2_with fail
   refine FIN.out.mono ?_
   rintro e w2 ⟨rfl,k2,ts',hp',hat⟩
   obtain⟨qs,hpq,hqs⟩:=lift_perm (fun q:V×V=>q.1.text) ts' ps (hp'.trans HP.out)
   obtain⟨n,hn⟩:∃n,n=qs.length:=⟨_,rfl⟩
   have hn1:ts.length=n:=by rw [hn,←hp'.length_eq,←hqs,List.length_map]
   have hn2:n≤1000:=by rw [hn,←hpq.length_eq];exact hmax
   rw [hn1]
   have N:=Lib.hid hn
   have PQ:=Lib.hid hpq
   have AT:=Lib.hid hat
   have QS:=Lib.hid hqs
   have HP2:=Lib.hid hp'
   clear hn hpq hat hqs hp' hn1
   have hsz2:=k2.size
   go_wp2_with fail
   go_loopg [8,27] n (fun kk s8 s27 wq=>∃(j:Nat) (us:List V),j+kk=n∧s27=.int .i64 (j:Int)∧us.length=2*j∧New w2 wq∧Sims (flat2 (qs.take j)) us∧RowV wq w2.heap.size s8 us)
   case atStart=>exact⟨0,[],by omega,rfl,rfl,Keep.refl _ _,.nil,RowV.nil⟩
   case round=>
    obtain⟨j,us,hj,rfl,hus,kq,hsim,hrow⟩:=hrel
    have SIM:=Lib.hid hsim
    clear hsim
    obtain⟨A,cc,rfl⟩:=hrow.shape
    rw [hus]at hrow ⊢
    rcases gk with _ | kk
    ·obtain rfl:j=n:=by omega
     have HO:=Lib.hid hrow.out
     clear hrow
     go_wp2
     go_ret2
     refine⟨_,us,qs,rfl,k2.trans kq,PQ.out,?_,by rw [hus,PQ.out.length_eq,N.out],HO.out.mono fun k _ hk=>by omega⟩
     have:=SIM.out
     rwa [N.out,List.take_length]at this
    ·have hjn:j<n:=by omega
     have tj:decide (j<n)=true:=by simpa using hjn
     have hjq:j<qs.length:=by rw [←N.out];exact hjn
     have hjt:j<ts'.length:=by rw [←QS.out,List.length_map];exact hjq
     obtain⟨g,rfl,hcell⟩:=AT.out wr kq j hjt
     have htj:ts'[j]=qs[j].1.text:=by
      have:=QS.out
      subst this
      simp
     rw [htj]at hcell
     have hmem:qs[j]∈ps:=PQ.out.mem_iff.2 (List.getElem_mem hjq)
     obtain⟨i,hi,hiq⟩:=List.getElem_of_mem hmem
     have hie:i<es.size:=by omega
     have kwq:=k2.trans kq
     have hlk:=lookup_text wr 96 9 Tryz.underlying96 Tryz.underlying9 m es clock (kwq.blk HM.out.here trivial) ⟨qs[j].1.text.toArray⟩ es[i] (by simp) (by rw [HM.out.key i hi hie,hiq]) (fun x hx=>by obtain⟨t,ht⟩:=HM.out.text x hx;exact⟨_,ht⟩) HM.out.keys_once
     have hcall:=HM.out.val i hi hie wr kwq
     rw [hiq]at hcall
     obtain⟨k0,o,hqo,hk0⟩:=HKEY.out qs[j] hmem
     have HK0:=Lib.hid hk0
     clear hk0
     obtain⟨tj',ht'⟩:∃t,t=qs[j].1.text:=⟨_,rfl⟩
     obtain⟨x,hx⟩:∃x,x=es[i].val:=⟨_,rfl⟩
     rw [←ht']at hcell hlk hqo
     rw [←hx]at hlk hcall
     have HC:=Lib.hid hcall
     have QO:=Lib.hid hqo
     clear hcall hx hiq hqo ht' htj
     go_wp2_with fail
     refine HC.out.mono ?_
     rintro e w4 ⟨y,u,rfl,k4,hs4,hv4⟩
     obtain⟨yk,yn,yt,A1,l1,c1,yo,A2,l2,c2,rfl⟩:=hv4.here.parts
     have e1:=kq.size
     have e2:=k4.size
     have kA:=((Keep.refl (fun _=>True) w4).alloc (.cells #[.int .i64 yk,.int .u64 yn,.string yt,.slice A1 l1 c1,.int .i64 yo,.slice A2 l2 c2] 78)).alloc (.cells #[.int .i64 k,.int .u64 0,.string ⟨tj'.toArray⟩,.slice none 0 0,.int .i64 0,.slice none 0 0,.int .i64 yk,.int .u64 yn,.string yt,.slice A1 l1 c1,.int .i64 yo,.slice A2 l2 c2] 78)
     have hrow4:=(hrow.keep k4 (fun _ _=>trivial)).keep kA (fun _ _=>trivial)
     have e3:=kA.size
     have hfar:∀g,Value.ownBlock (.slice A (2*j) cc)=some g→g<wr.heap.size:=fun g hg=>hrow.ownLt hg
     have hfar2:=hrow.far
     obtain⟨g5,c5,w5,hap,hrow5,k5⟩:=hrow4.step (vs:=[.mk k 0 tj' [] 0 [],u]) (w4.heap.size+1) 0 2 [.int .i64 k,.int .u64 0,.string ⟨tj'.toArray⟩,.slice none 0 0,.int .i64 0,.slice none 0 0,.int .i64 yk,.int .u64 yn,.string yt,.slice A1 l1 c1,.int .i64 yo,.slice A2 l2 c2]
      (fun q z hq=>by
       have hb:=blk_new (w4.alloc (.cells #[.int .i64 yk,.int .u64 yn,.string yt,.slice A1 l1 c1,.int .i64 yo,.slice A2 l2 c2] 78)) (.cells #[.int .i64 k,.int .u64 0,.string ⟨tj'.toArray⟩,.slice none 0 0,.int .i64 0,.slice none 0 0,.int .i64 yk,.int .u64 yn,.string yt,.slice A1 l1 c1,.int .i64 yo,.slice A2 l2 c2] 78)
       simp only [World.size_alloc]at hb
       rw [blk_cell hb,Nat.zero_add]
       simpa using hq)
      ((hv4.imp fun w9 h=>(mem_plain w9 k 0 tj' (by omega)).append h.mem).step kA.size (fun i hi _=>kA.block i hi trivial) (fun z hz hb=>⟨by omega,fun e=>by have:=hfar _ e.symm;omega⟩)) (by simp) (by simp;omega) (by omega)
     rw [hus]at hap hrow5
     simp only [List.length_cons,List.length_nil]at hap hrow5
     have HAP:=Lib.hid hap
     have HS4:=Lib.hid hs4
     clear hap hs4 hv4 hrow hrow4 hlk
     go_wp2_with (at_builtin;refine wpList_append_eq rfl _ _ 43 rfl _ _ _ _ rfl rfl HAP.out ?_)
     go_roundg kk
     case measure=>omega
     case rel=>
      refine⟨j+1,us++[.mk k 0 tj' [] 0 [],u],by omega,congrArg _ (by omega),by simp [hus];omega,((kq.trans k4).trans kA).then k5 (fun i hi _=>hfar2 i hi),?_,hrow5⟩
      rw [flat2_take_succ qs j hjq]
      refine SIM.out.app ?_
      have hleaf:=Sims.leaf (k:=k0) (k':=k) (n:=0) (t:=tj') (o:=o) (o':=0) (by have:=HKK.out;have:=HK0.out;omega) (by have:=HK0.out;omega) (fun _=>rfl) HS4.out
      rw [←QO.out]at hleaf
      exact hleaf
  ·have hem:=mem_left he
   have hsh:=left_shrinks es seen e he
   have hen:=entry_map w1 w.heap.size m clock seen es clock e hit1 (k1.blk hbr (show m≠w.heap.size by omega)) hem.1 HM.out.born.1
   obtain⟨t,ht⟩:=HM.out.text e hem.1
   rw [ht]at hnx hen
   have HE:=Lib.hid he
   have hrow1:=hrow.keep k1 (fun b hb=>by show b≠w.heap.size;omega)
   have hs1:=k1.size
   have hs0:=kr.size
   have hrow2:=hrow1.keep ((Keep.refl (fun _=>True) w1).alloc (.cells #[.string ⟨t.toArray⟩] 9)) (fun _ _=>trivial)
   obtain⟨g5,c5,w5,hap,hrow5,k5⟩:=hrow2.step t w1.heap.size 1 (blk_new _ _) (by omega) (by simp;omega)
   have hfar:=hrow.far
   have HAP:=Lib.hid hap
   have HT:=Lib.hid ht
   have hit5:=k5.blk (blk_alloc hit1 (.cells #[.string ⟨t.toArray⟩] 9)) (hfar _ (by omega))
   clear hap ht hrow hrow1 hrow2 hrg he
   go_wp2_with (at_builtin;refine wpList_append_eq rfl _ _ 52 rfl _ _ _ _ rfl rfl HAP.out ?_)
   go_roundg (leftOf es (seen.push e.born)).size
   case measure=>have:=LF.out;omega
   case rel=>
    refine⟨((kr.then k1 (fun i hi _=>by show i≠w.heap.size;omega)).alloc _).then k5 (fun i hi _=>hfar i (by omega)),seen.push e.born,clock,picked++[e],ts++[t],hit5,Nat.le_refl _,Nat.le_refl _,?_,?_,hrow5⟩
    ·rw [List.append_assoc]
     exact PK.out.trans ((left_perm es seen e HM.out.born.1 HE.out).append_left picked)
    ·rw [List.map_append,List.map_append,PT.out]
     simp [HT.out]
theorem textPairs_sym(k:Int)(hk:k=19∨k=20)(m:Nat)(es:Array MapEntry)(clock:Nat)(ps:List (V×V))(w:World)(hM:TMap w m es clock ps)(hmax:ps.length≤1000)(hkey:∀q∈ps,∃k0 o,q.1=.mk k0 0 q.1.text [] o []∧(k0=k∨k0=20∧k=19)):
 Calls Tryz.prog 75 #[.int .i64 k,.map (some m)] w fun e w'=>∃s us qs,e=.returned (.tuple #[s,.bool true])∧New w w'∧ps.Perm qs∧Sims (flat2 qs) us∧us.length=2*ps.length∧Dep (fun b=>w.heap.size≤b) w' (fun w=>LM w us s):=by
 have hrg:=range_map w 111 158 20 m es clock Tryz.underlying111 hM.here
 have HM:=Lib.hid hM
 have HKEY:=Lib.hid hkey
 have HKK:=Lib.hid hk
 have hpl:es.size=ps.length:=hM.size
 clear hM hkey hk
 go_enter Tryz.func75,Tryz.ntmps75
 go_wp2_with fail
 have hlt:=lt_blk HM.out.here
 go_loopg [6] es.size (fun kk s6 wr=>New w wr∧∃(seen:Array Nat) (c:Nat) (picked:List MapEntry) (ts:List (List UInt8)),wr.heap[w.heap.size]? =some (.mapIter (some m) clock seen c)∧clock≤c∧(leftOf es seen).size≤kk∧es.toList.Perm (picked++(leftOf es seen).toList)∧picked.map (·.key)=(ts.map fun t=>Value.string ⟨t.toArray⟩)∧RowS wr (w.heap.size+1) s6 ts)
 case atStart=>
  refine⟨(Keep.refl _ _).alloc _,#[],clock,[],[],blk_new _ _,Nat.le_refl _,?_,?_,rfl,RowS.nil⟩
  ·unfold leftOf
   exact Array.size_filter_le ..
  ·have:leftOf es #[]=es:=by
    unfold leftOf
    exact Array.filter_eq_self.2 (by simp)
   rw [this]
   exact List.Perm.refl _
 case round=>
  obtain⟨kr,seen,c,picked,ts,hit,hcl,hleft,hpk,hpt,hrow⟩:=hrel
  have hbr:=kr.blk HM.out.here trivial
  have LF:=Lib.hid hleft
  have PK:=Lib.hid hpk
  have PT:=Lib.hid hpt
  have hlen:ts.length≤ps.length:=by
   have h1:=congrArg List.length hpt
   have h2:=hpk.length_eq
   simp at h1 h2
   omega
  clear hleft hpk hpt
  obtain⟨A6,c6,rfl⟩:=hrow.shape
  have hits:=lt_blk hit
  rcases next_map wr w.heap.size m clock c seen es clock hit hbr HM.out.born.2 hcl with⟨h0,hnx⟩ | ⟨e,he,w1,hnx,hit1,k1⟩
  ·have hperm:ts.Perm (ps.map fun q=>q.1.text):=by
    have h1:=PK.out
    rw [List.eq_nil_of_length_eq_zero (l:=(leftOf es seen).toList) (by simpa using h0),List.append_nil]at h1
    have h2:=h1.map (·.key)
    rw [PT.out,HM.out.keys]at h2
    have inj:∀x y:List UInt8,Value.string ⟨x.toArray⟩=Value.string ⟨y.toArray⟩→x=y:=fun x y hxy=>by
     injection hxy with hxy
     injection hxy with hxy
     simpa using hxy
    exact(perm_of_map inj h2).symm
   have HP:=Lib.hid hperm
   clear hperm h0 hrg
   have fin:Calls Tryz.prog 90 #[.slice A6 ts.length c6] wr fun e w'=>e=.returned (.tuple #[])∧New w w'∧∃ts':List (List UInt8),ts'.Perm ts∧∀w2,New w' w2→∀j (hj:j<ts'.length),∃g,A6=some ⟨g,0,none⟩∧w2.cell? ⟨g,j,none⟩=some (.string ⟨ts'[j].toArray⟩):=by
    rcases hrow.cases with⟨he,hts⟩ | ⟨g,cap,cur,he,hg,hb,hat⟩
    ·subst hts
     injection he with e1 e2 e3
     subst e1;subst e3
     refine(Tryz.sort_Strings_none none 0 wr).mono ?_
     rintro e w' ⟨rfl,rfl⟩
     exact⟨rfl,kr,[],List.Perm.refl _,fun w2 _ j hj=>absurd hj (by simp)⟩
    ·injection he with e1 e2 e3
     subst e1;subst e3
     refine(sort_texts g c6 cur ts wr hb hat (by omega)).mono ?_
     rintro e w' ⟨rfl,ks,ts',cur',hp,hb',hat'⟩
     exact⟨rfl,kr.then ks (fun i hi _=>by omega),ts',hp,fun w2 k2 j hj=>⟨g,rfl,by rw [blk_cell (k2.blk hb' trivial)];exact hat' j hj⟩⟩
   have FIN:=Lib.hid fin
   clear fin hit hrow
   go_wp2_with fail
   refine FIN.out.mono ?_
   rintro e w2 ⟨rfl,k2,ts',hp',hat⟩
   obtain⟨qs,hpq,hqs⟩:=lift_perm (fun q:V×V=>q.1.text) ts' ps (hp'.trans HP.out)
   obtain⟨n,hn⟩:∃n,n=qs.length:=⟨_,rfl⟩
   have hn1:ts.length=n:=by rw [hn,←hp'.length_eq,←hqs,List.length_map]
   have hn2:n≤1000:=by rw [hn,←hpq.length_eq];exact hmax
   rw [hn1]
   have N:=Lib.hid hn
   have PQ:=Lib.hid hpq
   have AT:=Lib.hid hat
   have QS:=Lib.hid hqs
   have HP2:=Lib.hid hp'
   clear hn hpq hat hqs hp' hn1
   have hsz2:=k2.size
   go_wp2_with fail
   go_loopg [8,27] n (fun kk s8 s27 wq=>∃(j:Nat) (us:List V),j+kk=n∧s27=.int .i64 (j:Int)∧us.length=2*j∧New w2 wq∧Sims (flat2 (qs.take j)) us∧RowV wq w2.heap.size s8 us)
   case atStart=>exact⟨0,[],by omega,rfl,rfl,Keep.refl _ _,.nil,RowV.nil⟩
   case round=>
    obtain⟨j,us,hj,rfl,hus,kq,hsim,hrow⟩:=hrel
    have SIM:=Lib.hid hsim
    clear hsim
    obtain⟨A,cc,rfl⟩:=hrow.shape
    rw [hus]at hrow ⊢
    rcases gk with _ | kk
    ·obtain rfl:j=n:=by omega
     have HO:=Lib.hid hrow.out
     clear hrow
     go_wp2
     go_ret2
     refine⟨_,us,qs,rfl,k2.trans kq,PQ.out,?_,by rw [hus,PQ.out.length_eq,N.out],HO.out.mono fun k _ hk=>by omega⟩
     have:=SIM.out
     rwa [N.out,List.take_length]at this
    ·have hjn:j<n:=by omega
     have tj:decide (j<n)=true:=by simpa using hjn
     have hjq:j<qs.length:=by rw [←N.out];exact hjn
     have hjt:j<ts'.length:=by rw [←QS.out,List.length_map];exact hjq
     obtain⟨g,rfl,hcell⟩:=AT.out wr kq j hjt
     have htj:ts'[j]=qs[j].1.text:=by
      have:=QS.out
      subst this
      simp
     rw [htj]at hcell
     have hmem:qs[j]∈ps:=PQ.out.mem_iff.2 (List.getElem_mem hjq)
     obtain⟨i,hi,hiq⟩:=List.getElem_of_mem hmem
     have hie:i<es.size:=by omega
     have kwq:=k2.trans kq
     have hlk:=lookup_text wr 111 158 Tryz.underlying111 Tryz.underlying158 m es clock (kwq.blk HM.out.here trivial) ⟨qs[j].1.text.toArray⟩ es[i] (by simp) (by rw [HM.out.key i hi hie,hiq]) (fun x hx=>by obtain⟨t,ht⟩:=HM.out.text x hx;exact⟨_,ht⟩) HM.out.keys_once
     have hcall:=HM.out.val i hi hie wr kwq
     rw [hiq]at hcall
     obtain⟨k0,o,hqo,hk0⟩:=HKEY.out qs[j] hmem
     have HK0:=Lib.hid hk0
     clear hk0
     obtain⟨tj',ht'⟩:∃t,t=qs[j].1.text:=⟨_,rfl⟩
     obtain⟨x,hx⟩:∃x,x=es[i].val:=⟨_,rfl⟩
     rw [←ht']at hcell hlk hqo
     rw [←hx]at hlk hcall
     have HC:=Lib.hid hcall
     have QO:=Lib.hid hqo
     clear hcall hx hiq hqo ht' htj
     go_wp2_with fail
     refine HC.out.mono ?_
     rintro e w4 ⟨y,u,rfl,k4,hs4,hv4⟩
     obtain⟨yk,yn,yt,A1,l1,c1,yo,A2,l2,c2,rfl⟩:=hv4.here.parts
     have e1:=kq.size
     have e2:=k4.size
     have kA:=((Keep.refl (fun _=>True) w4).alloc (.cells #[.int .i64 yk,.int .u64 yn,.string yt,.slice A1 l1 c1,.int .i64 yo,.slice A2 l2 c2] 78)).alloc (.cells #[.int .i64 k,.int .u64 0,.string ⟨tj'.toArray⟩,.slice none 0 0,.int .i64 0,.slice none 0 0,.int .i64 yk,.int .u64 yn,.string yt,.slice A1 l1 c1,.int .i64 yo,.slice A2 l2 c2] 78)
     have hrow4:=(hrow.keep k4 (fun _ _=>trivial)).keep kA (fun _ _=>trivial)
     have e3:=kA.size
     have hfar:∀g,Value.ownBlock (.slice A (2*j) cc)=some g→g<wr.heap.size:=fun g hg=>hrow.ownLt hg
     have hfar2:=hrow.far
     obtain⟨g5,c5,w5,hap,hrow5,k5⟩:=hrow4.step (vs:=[.mk k 0 tj' [] 0 [],u]) (w4.heap.size+1) 0 2 [.int .i64 k,.int .u64 0,.string ⟨tj'.toArray⟩,.slice none 0 0,.int .i64 0,.slice none 0 0,.int .i64 yk,.int .u64 yn,.string yt,.slice A1 l1 c1,.int .i64 yo,.slice A2 l2 c2]
      (fun q z hq=>by
       have hb:=blk_new (w4.alloc (.cells #[.int .i64 yk,.int .u64 yn,.string yt,.slice A1 l1 c1,.int .i64 yo,.slice A2 l2 c2] 78)) (.cells #[.int .i64 k,.int .u64 0,.string ⟨tj'.toArray⟩,.slice none 0 0,.int .i64 0,.slice none 0 0,.int .i64 yk,.int .u64 yn,.string yt,.slice A1 l1 c1,.int .i64 yo,.slice A2 l2 c2] 78)
       simp only [World.size_alloc]at hb
       rw [blk_cell hb,Nat.zero_add]
       simpa using hq)
      ((hv4.imp fun w9 h=>(mem_plain w9 k 0 tj' (by omega)).append h.mem).step kA.size (fun i hi _=>kA.block i hi trivial) (fun z hz hb=>⟨by omega,fun e=>by have:=hfar _ e.symm;omega⟩)) (by simp) (by simp;omega) (by omega)
     rw [hus]at hap hrow5
     simp only [List.length_cons,List.length_nil]at hap hrow5
     have HAP:=Lib.hid hap
     have HS4:=Lib.hid hs4
     clear hap hs4 hv4 hrow hrow4 hlk
     go_wp2_with (at_builtin;refine wpList_append_eq rfl _ _ 43 rfl _ _ _ _ rfl rfl HAP.out ?_)
     go_roundg kk
     case measure=>omega
     case rel=>
      refine⟨j+1,us++[.mk k 0 tj' [] 0 [],u],by omega,congrArg _ (by omega),by simp [hus];omega,((kq.trans k4).trans kA).then k5 (fun i hi _=>hfar2 i hi),?_,hrow5⟩
      rw [flat2_take_succ qs j hjq]
      refine SIM.out.app ?_
      have hleaf:=Sims.leaf (k:=k0) (k':=k) (n:=0) (t:=tj') (o:=o) (o':=0) (by have:=HKK.out;have:=HK0.out;omega) (by have:=HK0.out;omega) (fun _=>rfl) HS4.out
      rw [←QO.out]at hleaf
      exact hleaf
  ·have hem:=mem_left he
   have hsh:=left_shrinks es seen e he
   have hen:=entry_map w1 w.heap.size m clock seen es clock e hit1 (k1.blk hbr (show m≠w.heap.size by omega)) hem.1 HM.out.born.1
   obtain⟨t,ht⟩:=HM.out.text e hem.1
   rw [ht]at hnx hen
   have HE:=Lib.hid he
   have hrow1:=hrow.keep k1 (fun b hb=>by show b≠w.heap.size;omega)
   have hs1:=k1.size
   have hs0:=kr.size
   have hrow2:=hrow1.keep ((Keep.refl (fun _=>True) w1).alloc (.cells #[.string ⟨t.toArray⟩] 9)) (fun _ _=>trivial)
   obtain⟨g5,c5,w5,hap,hrow5,k5⟩:=hrow2.step t w1.heap.size 1 (blk_new _ _) (by omega) (by simp;omega)
   have hfar:=hrow.far
   have HAP:=Lib.hid hap
   have HT:=Lib.hid ht
   have hit5:=k5.blk (blk_alloc hit1 (.cells #[.string ⟨t.toArray⟩] 9)) (hfar _ (by omega))
   clear hap ht hrow hrow1 hrow2 hrg he
   go_wp2_with (at_builtin;refine wpList_append_eq rfl _ _ 52 rfl _ _ _ _ rfl rfl HAP.out ?_)
   go_roundg (leftOf es (seen.push e.born)).size
   case measure=>have:=LF.out;omega
   case rel=>
    refine⟨((kr.then k1 (fun i hi _=>by show i≠w.heap.size;omega)).alloc _).then k5 (fun i hi _=>hfar i (by omega)),seen.push e.born,clock,picked++[e],ts++[t],hit5,Nat.le_refl _,Nat.le_refl _,?_,?_,hrow5⟩
    ·rw [List.append_assoc]
     exact PK.out.trans ((left_perm es seen e HM.out.born.1 HE.out).append_left picked)
    ·rw [List.map_append,List.map_append,PT.out]
     simp [HT.out]
end Go.Proofs.YtfoegolfadhmjaaGreatDoor
namespace Go.Proofs.YtfoegolfadhmjaaGreatDoor
open Go.RowKit Go.WideShapes
theorem vsub_list(A0:Option Addr)(l0 cc0:Nat)(R:List V→Prop)(w:World)
 (hcall:∀w1,New w w1→Calls Tryz.prog 151 #[.slice A0 l0 cc0] w1 fun e w'=>∃s us,e=.returned (.tuple #[s,.bool true])∧New w1 w'∧R us∧Dep (fun b=>w1.heap.size≤b) w' (fun w=>LM w us s)):
 Calls Tryz.prog 91 #[.iface 310 (.slice A0 l0 cc0)] w fun e w2=>∃y us,e=.returned (.tuple #[y,.bool true])∧New w w2∧R us∧Dep (fun b=>w.heap.size≤b) w2 (fun w=>VM w (.mk 21 0 [] us 0 []) y):=by
 have HC:=Lib.hid hcall
 clear hcall
 go_enter Tryz.func91,Tryz.ntmps91
 go_wp2_with fail
 refine(HC.out _ ((Keep.refl _ w).alloc _)).mono ?_
 rintro e w1 ⟨s,us,rfl,k1,hr,hd⟩
 obtain⟨A,cc,rfl,_⟩:=hd.here.shape
 have k2:=(((Keep.refl (fun _=>True) w).alloc _).trans k1)
 have hb:=k1.blk (blk_new w _) trivial
 have c0:=(blk_cell hb 0).trans rfl
 have c1:=(blk_cell hb 1).trans rfl
 have c2:=(blk_cell hb 2).trans rfl
 have c3:=(blk_cell hb 3).trans rfl
 have c4:=(blk_cell hb 4).trans rfl
 have c5:=(blk_cell hb 5).trans rfl
 have f0:=blk_free hb 0
 have f1:=blk_free hb 1
 have f2:=blk_free hb 2
 have f3:=blk_free hb 3
 have f4:=blk_free hb 4
 have f5:=blk_free hb 5
 have HD:=Lib.hid hd
 have HR:=Lib.hid hr
 clear hb hd hr
 go_wp2
 refine bodyPost_ret (v:=.tuple #[.agg #[.int .i64 21,.int .u64 0,.string ⟨#[]⟩,.slice A us.length cc,.int .i64 0,.slice none 0 0],.bool true]) (by simp [results,Tryz.results91,go_sem,c0,c1,c2,c3,c4,c5]) rfl ⟨_,us,rfl,?_,HR.out,?_⟩
 ·repeat (refine Keep.setCell ?_ (Or.inl (b:=¬True) (Nat.le_refl _)) _)
  exact k2
 ·refine Dep.imp (φ:=fun w=>LM w us (.slice A us.length cc)) ?_ fun w h=>VM.mk (t:=[]) (by omega) h LM.nil
  refine Dep.mono (ok:=fun b=>(w.alloc (.cells #[.int .i64 0,.int .u64 0,.string ⟨#[]⟩,.slice none 0 0,.int .i64 0,.slice none 0 0] 78)).heap.size≤b) ?_ (fun k _ hk=>by simp only [World.size_alloc]at hk;omega)
  refine Dep.keep (ok':=fun b=>b≠w.heap.size) HD.out ?_ (fun k _ hk=>by simp only [World.size_alloc]at hk;omega)
  repeat (refine Keep.setCell ?_ (Or.inr (by simp)) _)
  exact Keep.refl _ _
theorem vsub_pairs(A0:Option Nat)(R:List V→Prop)(w:World)
 (hcall:∀w1,New w w1→Calls Tryz.prog 152 #[.map A0] w1 fun e w'=>∃s us,e=.returned (.tuple #[s,.bool true])∧New w1 w'∧R us∧Dep (fun b=>w1.heap.size≤b) w' (fun w=>LM w us s)):
 Calls Tryz.prog 91 #[.iface 277 (.map A0)] w fun e w2=>∃y us,e=.returned (.tuple #[y,.bool true])∧New w w2∧R us∧Dep (fun b=>w.heap.size≤b) w2 (fun w=>VM w (.mk 22 0 [] us 0 []) y):=by
 have HC:=Lib.hid hcall
 clear hcall
 go_enter Tryz.func91,Tryz.ntmps91
 go_wp2_with fail
 refine(HC.out _ ((Keep.refl _ w).alloc _)).mono ?_
 rintro e w1 ⟨s,us,rfl,k1,hr,hd⟩
 obtain⟨A,cc,rfl,_⟩:=hd.here.shape
 have k2:=(((Keep.refl (fun _=>True) w).alloc _).trans k1)
 have hb:=k1.blk (blk_new w _) trivial
 have c0:=(blk_cell hb 0).trans rfl
 have c1:=(blk_cell hb 1).trans rfl
 have c2:=(blk_cell hb 2).trans rfl
 have c3:=(blk_cell hb 3).trans rfl
 have c4:=(blk_cell hb 4).trans rfl
 have c5:=(blk_cell hb 5).trans rfl
 have f0:=blk_free hb 0
 have f1:=blk_free hb 1
 have f2:=blk_free hb 2
 have f3:=blk_free hb 3
 have f4:=blk_free hb 4
 have f5:=blk_free hb 5
 have HD:=Lib.hid hd
 have HR:=Lib.hid hr
 clear hb hd hr
 go_wp2
 refine bodyPost_ret (v:=.tuple #[.agg #[.int .i64 22,.int .u64 0,.string ⟨#[]⟩,.slice A us.length cc,.int .i64 0,.slice none 0 0],.bool true]) (by simp [results,Tryz.results91,go_sem,c0,c1,c2,c3,c4,c5]) rfl ⟨_,us,rfl,?_,HR.out,?_⟩
 ·repeat (refine Keep.setCell ?_ (Or.inl (b:=¬True) (Nat.le_refl _)) _)
  exact k2
 ·refine Dep.imp (φ:=fun w=>LM w us (.slice A us.length cc)) ?_ fun w h=>VM.mk (t:=[]) (by omega) h LM.nil
  refine Dep.mono (ok:=fun b=>(w.alloc (.cells #[.int .i64 0,.int .u64 0,.string ⟨#[]⟩,.slice none 0 0,.int .i64 0,.slice none 0 0] 78)).heap.size≤b) ?_ (fun k _ hk=>by simp only [World.size_alloc]at hk;omega)
  refine Dep.keep (ok':=fun b=>b≠w.heap.size) HD.out ?_ (fun k _ hk=>by simp only [World.size_alloc]at hk;omega)
  repeat (refine Keep.setCell ?_ (Or.inr (by simp)) _)
  exact Keep.refl _ _
theorem vsub_texts(A0:Option Nat)(R:List V→Prop)(w:World)
 (hcall:∀w1,New w w1→Calls Tryz.prog 81 #[.int .i64 19,.map A0] w1 fun e w'=>∃s us,e=.returned (.tuple #[s,.bool true])∧New w1 w'∧R us∧Dep (fun b=>w1.heap.size≤b) w' (fun w=>LM w us s)):
 Calls Tryz.prog 91 #[.iface 96 (.map A0)] w fun e w2=>∃y us,e=.returned (.tuple #[y,.bool true])∧New w w2∧R us∧Dep (fun b=>w.heap.size≤b) w2 (fun w=>VM w (.mk 22 0 [] us 0 []) y):=by
 have HC:=Lib.hid hcall
 clear hcall
 go_enter Tryz.func91,Tryz.ntmps91
 go_wp2_with fail
 refine(HC.out _ ((Keep.refl _ w).alloc _)).mono ?_
 rintro e w1 ⟨s,us,rfl,k1,hr,hd⟩
 obtain⟨A,cc,rfl,_⟩:=hd.here.shape
 have k2:=(((Keep.refl (fun _=>True) w).alloc _).trans k1)
 have hb:=k1.blk (blk_new w _) trivial
 have c0:=(blk_cell hb 0).trans rfl
 have c1:=(blk_cell hb 1).trans rfl
 have c2:=(blk_cell hb 2).trans rfl
 have c3:=(blk_cell hb 3).trans rfl
 have c4:=(blk_cell hb 4).trans rfl
 have c5:=(blk_cell hb 5).trans rfl
 have f0:=blk_free hb 0
 have f1:=blk_free hb 1
 have f2:=blk_free hb 2
 have f3:=blk_free hb 3
 have f4:=blk_free hb 4
 have f5:=blk_free hb 5
 have HD:=Lib.hid hd
 have HR:=Lib.hid hr
 clear hb hd hr
 go_wp2
 refine bodyPost_ret (v:=.tuple #[.agg #[.int .i64 22,.int .u64 0,.string ⟨#[]⟩,.slice A us.length cc,.int .i64 0,.slice none 0 0],.bool true]) (by simp [results,Tryz.results91,go_sem,c0,c1,c2,c3,c4,c5]) rfl ⟨_,us,rfl,?_,HR.out,?_⟩
 ·repeat (refine Keep.setCell ?_ (Or.inl (b:=¬True) (Nat.le_refl _)) _)
  exact k2
 ·refine Dep.imp (φ:=fun w=>LM w us (.slice A us.length cc)) ?_ fun w h=>VM.mk (t:=[]) (by omega) h LM.nil
  refine Dep.mono (ok:=fun b=>(w.alloc (.cells #[.int .i64 0,.int .u64 0,.string ⟨#[]⟩,.slice none 0 0,.int .i64 0,.slice none 0 0] 78)).heap.size≤b) ?_ (fun k _ hk=>by simp only [World.size_alloc]at hk;omega)
  refine Dep.keep (ok':=fun b=>b≠w.heap.size) HD.out ?_ (fun k _ hk=>by simp only [World.size_alloc]at hk;omega)
  repeat (refine Keep.setCell ?_ (Or.inr (by simp)) _)
  exact Keep.refl _ _
end Go.Proofs.YtfoegolfadhmjaaGreatDoor
namespace Go.Proofs.YtfoegolfadhmjaaGreatDoor
open Go.RowKit Go.WideShapes
inductive NSA:List V→Prop where
 | nil:NSA []
 | cons {k:Int} {n:Nat} {t:List UInt8} {ks ds vs:List V} {o:Int} (h:k=23→∀v∈ks,v.kind≠20) (hk:NSA ks) (hs:NSA vs):NSA (.mk k n t ks o ds::vs)
theorem NSA.mem{l:List V}:NSA l↔∀v∈l,NSA [v]:=by
 constructor
 ·intro h
  induction h with
  | nil=>intro v hv;simp at hv
  | cons h hk hs _ ih=>
    intro v hv
    rcases List.mem_cons.1 hv with rfl | hv
    ·exact .cons h hk .nil
    ·exact ih v hv
 ·intro h
  induction l with
  | nil=>exact .nil
  | cons v l ih=>
    have h1:=h v (List.mem_cons_self ..)
    cases h1 with
    | cons h1 hk _=>exact .cons h1 hk (ih fun u hu=>h u (List.mem_cons_of_mem _ hu))
theorem AbleL.mem{l:List V}:AbleL l↔∀v∈l,AbleL [v]:=by
 constructor
 ·intro h
  induction h with
  | nil=>intro v hv;simp at hv
  | leaf h hs ih=>exact fun v hv=>(List.mem_cons.1 hv).elim (fun e=>e▸.leaf h .nil) (ih v)
  | list hk hm hs _ ih=>exact fun v hv=>(List.mem_cons.1 hv).elim (fun e=>e▸.list hk hm .nil) (ih v)
  | map hk hm ok hs _ ih=>exact fun v hv=>(List.mem_cons.1 hv).elim (fun e=>e▸.map hk hm ok .nil) (ih v)
  | arr hk hm hne hs ih=>exact fun v hv=>(List.mem_cons.1 hv).elim (fun e=>e▸.arr hk hm hne .nil) (ih v)
 ·intro h
  induction l with
  | nil=>exact .nil
  | cons v l ih=>
    have h1:=h v (List.mem_cons_self ..)
    have h2:=ih fun u hu=>h u (List.mem_cons_of_mem _ hu)
    cases h1 with
    | leaf h _=>exact .leaf h h2
    | list hk hm _=>exact .list hk hm h2
    | map hk hm ok _=>exact .map hk hm ok h2
    | arr hk hm hne _=>exact .arr hk hm hne h2
theorem flat2_mem{v:V}:∀{ps:List (V×V)},v∈flat2 ps↔∃q∈ps,v=q.1∨v=q.2
 | []=>by simp [flat2]
 | q::ps=>by simp [flat2,flat2_mem (ps:=ps),or_assoc]
theorem AbleL.perm{ps qs:List (V×V)}(h:ps.Perm qs)(k:AbleL (flat2 ps)):AbleL (flat2 qs):=by
 rw [AbleL.mem]at k ⊢
 intro v hv
 rw [flat2_mem]at hv
 obtain⟨q,hq,e⟩:=hv
 exact k v (flat2_mem.2 ⟨q,h.mem_iff.2 hq,e⟩)
theorem NSA.perm{ps qs:List (V×V)}(h:ps.Perm qs)(k:NSA (flat2 ps)):NSA (flat2 qs):=by
 rw [NSA.mem]at k ⊢
 intro v hv
 rw [flat2_mem]at hv
 obtain⟨q,hq,e⟩:=hv
 exact k v (flat2_mem.2 ⟨q,h.mem_iff.2 hq,e⟩)
theorem MapOk.perm{ps qs:List (V×V)}(h:ps.Perm qs)(k:MapOk ps):MapOk qs:=
 ⟨fun q hq=>k.kinds q (h.mem_iff.2 hq),(h.map fun q=>rk q.1).nodup k.once⟩
theorem AbleL.list_inv{ks vs:List V}{o:Int}(h:AbleL (.mk 21 0 [] ks o []::vs)):AbleL ks∧ks.length≤1000∧AbleL vs:=by
 cases h with
 | leaf h _=>cases h
 | list hk hm hs=>exact⟨hk,hm,hs⟩
theorem flat2_inj:∀{ps qs:List (V×V)},flat2 ps=flat2 qs→ps=qs
 | [],[],_=>rfl
 | [],q::qs,h=>by simp [flat2]at h
 | p::ps,[],h=>by simp [flat2]at h
 | (a,b)::ps,(c,d)::qs,h=>by
   simp only [flat2,List.cons.injEq]at h
   obtain⟨rfl,rfl,h⟩:=h
   rw [flat2_inj h]
theorem AbleL.map_inv{ps:List (V×V)}{vs:List V}{o:Int}(h:AbleL (.mk 22 0 [] (flat2 ps) o []::vs)):AbleL (flat2 ps)∧2*ps.length≤1000∧MapOk ps∧AbleL vs:=by
 generalize hx:(.mk 22 0 [] (flat2 ps) o []:V)=x at h
 cases h with
 | leaf h _=>rw [←hx]at h;cases h
 | list hk hm hs=>simp at hx
 | map hk hm ok hs=>
   simp only [V.mk.injEq,true_and,and_true]at hx
   obtain rfl:=flat2_inj hx.1
   exact⟨hk,hm,ok,hs⟩
 | arr hk hm hne hs=>simp at hx
theorem AbleL.arr_inv{ks vs:List V}{o:Int}(h:AbleL (.mk 23 0 [] ks o []::vs)):(∃k,ArrOk k ks)∧ks.length≤1000∧ks≠[]∧AbleL vs:=by
 cases h with
 | leaf h _=>cases h
 | arr hk hm hne hs=>exact⟨⟨_,hk⟩,hm,hne,hs⟩
theorem AbleL.tail{v:V}{vs:List V}(h:AbleL (v::vs)):AbleL vs:=by
 cases h<;>assumption
theorem NSA.tail{v:V}{vs:List V}(h:NSA (v::vs)):NSA vs:=by
 cases h;assumption
theorem NSA.kids{k:Int}{n:Nat}{t:List UInt8}{ks ds vs:List V}{o:Int}(h:NSA (.mk k n t ks o ds::vs)):NSA ks∧(k=23→∀v∈ks,v.kind≠20):=by
 cases h with
 | cons h hk _=>exact⟨hk,h⟩
theorem ValOK.mono{w w1:World}{v:V}{x:Value}(h:ValOK w v x)(k:New w w1):ValOK w1 v x:=fun w2 k2=>h w2 (k.trans k2)
theorem valOK_leaf{w:World}{v:V}{x:Value}(h:GLeaf w v x)(hok:LeafOk v):ValOK w v x:=by
 intro w1 k
 refine(valued_leaf (h.new k)).mono ?_
 rintro e w2 ⟨rfl,k2⟩
 have hp:=hok.plain
 have hn:=hok.num
 obtain⟨k0,n,t,ks,o,ds⟩:=v
 simp only [V.kind,V.num,V.text,V.of,V.mk.injEq,true_and]at hp hn ⊢
 obtain⟨rfl,rfl⟩:=hp
 refine⟨_,.mk (if k0=20 then 19 else k0) n t [] 0 [],rfl,k2,?_,fun w3 _=>⟨_,rfl,mem_plain w3 _ n t hn⟩⟩
 refine .leaf ?_ ?_ ?_ .nil
 ·cases hok<;>omega
 ·by_cases h20:k0=20
  ·exact .inr ⟨h20,by rw [if_pos h20]⟩
  ·exact .inl (by rw [if_neg h20])
 ·intro h20
  subst h20
  cases hok
  rfl
def PairsOK(w:World)(m:Nat)(qs:List (V×V)):Prop:=
 ∀w1,New w w1→Calls Tryz.prog 152 #[.map (some m)] w1 fun e w'=>∃s us,e=.returned (.tuple #[s,.bool true])∧New w1 w'∧(∃qs',qs.Perm qs'∧Sims (flat2 qs') us)∧Dep (fun b=>w1.heap.size≤b) w' (fun w=>LM w us s)
def PairsC(w:World):Prop:=∀(m:Nat) (es:Array MapEntry) (clock:Nat) (qs:List (V×V)),w.heap[m]? =some (.map es clock)→Born es clock→es.size=qs.length→qs.length≤500→MapOk qs→
 (∀j (hj:j<qs.length) (he:j<es.size),GLeaf w qs[j].1 es[j].key∧LeafOk qs[j].1∧ValOK w qs[j].2 es[j].val)→PairsOK w m qs
theorem GVs.two{w:World}:∀{qs:List (V×V)} {es:List MapEntry} {f:Value→Value},GVs w (flat2 qs) (es.flatMap fun e=>[f e.key,e.val])→es.length=qs.length∧∀j (hj:j<qs.length) (he:j<es.length),GV w qs[j].1 (f es[j].key)∧GV w qs[j].2 es[j].val
 | [],[],_,_=>⟨rfl,fun j hj=>absurd hj (by simp)⟩
 | [],e::es,_,h=>by simp only [flat2,List.flatMap_cons]at h;cases h
 | q::qs,[],_,h=>by
   have:=h.len
   simp [flat2]at this
 | (a,b)::qs,e::es,f,h=>by
   simp only [flat2,List.flatMap_cons,List.cons_append,List.nil_append]at h
   obtain⟨h1,h2⟩:=h.inv
   obtain⟨h3,h4⟩:=h2.inv
   obtain⟨i1,i2⟩:=GVs.two h4
   refine⟨by simp [i1],fun j hj he=>?_⟩
   cases j with
   | zero=>exact⟨h1,h3⟩
   | succ j=>exact i2 j (by simpa using hj) (by simpa using he)
theorem flat2_get(qs:List (V×V)):∀j (hj:j<qs.length),∃(h1:2*j<(flat2 qs).length) (h2:2*j+1<(flat2 qs).length),(flat2 qs)[2*j]=qs[j].1∧(flat2 qs)[2*j+1]=qs[j].2:=by
 induction qs with
 | nil=>intro j hj;simp at hj
 | cons q qs ih=>
   intro j hj
   cases j with
   | zero=>exact⟨by simp [flat2],by simp [flat2],rfl,rfl⟩
   | succ j=>
     obtain⟨h1,h2,h3,h4⟩:=ih j (by simpa using hj)
     refine⟨by simp [flat2];omega,by simp [flat2];omega,?_,?_⟩
     ·have e:2*(j+1)=2*j+1+1:=by omega
      simp only [flat2,e,List.getElem_cons_succ]
      exact h3
     ·have e:2*(j+1)+1=2*j+1+1+1:=by omega
      simp only [flat2,e,List.getElem_cons_succ]
      exact h4
theorem flat_get(f:MapEntry→Value):∀(l:List MapEntry) (j:Nat) (hj:j<l.length) (h:2*j+1<(l.flatMap fun e=>[f e,e.val]).length),(l.flatMap fun e=>[f e,e.val])[2*j+1]=l[j].val
 | [],j,hj,_=>absurd hj (by simp)
 | e::l,0,_,_=>rfl
 | e::l,j+1,hj,h=>by
   have e1:2*(j+1)+1=2*j+1+1+1:=by omega
   simp only [List.flatMap_cons,List.cons_append,List.nil_append,e1,List.getElem_cons_succ]
   exact flat_get f l j (by simpa using hj) _
theorem texts_keys{w:World}{qs:List (V×V)}(hok:MapOk qs)(hL:AbleL (flat2 qs)){ks:Nat→Value}(h:∀j (hj:j<qs.length),GV w qs[j].1 (.iface 9 (ks j))):
 (∀j (hj:j<qs.length),ks j=.string ⟨qs[j].1.text.toArray⟩)∧(qs.map fun q=>q.1.text).Nodup∧∀q∈qs,∃k0 o,q.1=.mk k0 0 q.1.text [] o []∧(k0=19∨k0=20∧(19:Int)=19):=by
 have main:∀j (hj:j<qs.length),ks j=.string ⟨qs[j].1.text.toArray⟩∧∃k0 o,qs[j].1=.mk k0 0 qs[j].1.text [] o []∧(k0=19∨k0=20):=fun j hj=>by
  have hk:=hok.kinds _ (List.getElem_mem hj)
  have hg:=(h j hj).leaf hk
  generalize qs[j].1=v at hg
  generalize ks j=y at hg
  generalize hx:Value.iface 9 y=x at hg
  cases hg<;>simp at hx
  ·exact⟨hx,_,_,rfl,.inl rfl⟩
  ·exact⟨hx,_,_,rfl,.inr rfl⟩
 refine⟨fun j hj=>(main j hj).1,?_,fun q hq=>?_⟩
 ·have h1:=hok.once
  rw [List.nodup_iff_pairwise_ne,List.pairwise_map]at h1 ⊢
  refine h1.imp_of_mem fun {a b} ha hb hab e=>hab ?_
  obtain⟨i,hi,rfl⟩:=List.getElem_of_mem ha
  obtain⟨j,hj,rfl⟩:=List.getElem_of_mem hb
  obtain⟨_,k1,o1,e1,c1⟩:=main i hi
  obtain⟨_,k2,o2,e2,c2⟩:=main j hj
  have f1:rk qs[i].1=(19,0,qs[i].1.text):=by
   rw [e1]
   rcases c1 with rfl | rfl<;>rfl
  have f2:rk qs[j].1=(19,0,qs[j].1.text):=by
   rw [e2]
   rcases c2 with rfl | rfl<;>rfl
  rw [f1,f2,e]
 ·obtain⟨j,hj,rfl⟩:=List.getElem_of_mem hq
  obtain⟨_,k0,o,e,c⟩:=main j hj
  exact⟨k0,o,e,c.elim .inl fun c=>.inr ⟨c,rfl⟩⟩
theorem AbleL.leaf_of{v:V}(h:AbleL [v])(hk:KeyK v.kind):LeafOk v:=by
 cases h with
 | leaf h _=>exact h
 | _=>simp [KeyK,V.kind]at hk
theorem able_key{qs:List (V×V)}(hok:MapOk qs)(hL:AbleL (flat2 qs))(j:Nat)(hj:j<qs.length):LeafOk qs[j].1:=
 (AbleL.mem.1 hL _ (flat2_mem.2 ⟨_,List.getElem_mem hj,.inl rfl⟩)).leaf_of (hok.kinds _ (List.getElem_mem hj))
theorem valued_of{w:World}(PC:PairsC w){l:List V}{xs:List Value}(h:GVs w l xs):AbleL l→NSA l→∀j (hj:j<l.length) (hx:j<xs.length),ValOK w l[j] xs[j]:=by
 have cons:∀{v:V} {x:Value} {vs:List V} {xs:List Value},ValOK w v x→(∀j (hj:j<vs.length) (hx:j<xs.length),ValOK w vs[j] xs[j])→∀j (hj:j<(v::vs).length) (hx:j<(x::xs).length),ValOK w (v::vs)[j] (x::xs)[j]:=by
  intro v x vs xs h1 h2 j hj hx
  cases j with
  | zero=>exact h1
  | succ j=>exact h2 j (by simpa using hj) (by simpa using hx)
 induction h with
 | nil=>intro _ _ j hj;simp at hj
 | leaf h hs ih=>
   intro hA hN
   refine cons (valOK_leaf h ?_) (ih hA.tail hN.tail)
   cases hA with
   | leaf h _=>exact h
   | list hk hm _=>cases h
   | map hk hm ok _=>cases h
   | arr hk hm hne _=>cases h
 | list0 hs ih=>
   intro hA hN
   refine cons (fun w1 k1=>?_) (ih hA.tail hN.tail)
   refine(vsub_list none 0 0 (fun us=>us=[]) w1 fun w2 k2=>(listed_nil w2).mono ?_).mono ?_
   ·rintro e w' ⟨rfl,k⟩
    exact⟨_,[],rfl,k,rfl,fun _ _=>LM.nil⟩
   ·rintro e w2 ⟨y,us,rfl,k2,rfl,hd⟩
    exact⟨_,_,rfl,k2,.list .nil .nil,hd⟩
 | list hd hk hne hs ih1 ih2=>
   rename_i o d kids vs us xs
   intro hA hN
   obtain⟨hA1,hA2,hA3⟩:=hA.list_inv
   refine cons (fun w1 k1=>?_) (ih2 hA3 hN.tail)
   have hlen:=hk.len
   refine(vsub_list (some ⟨d,0,none⟩) kids.length kids.length (fun ls=>Sims kids ls) w1 fun w2 k2=>?_).mono ?_
   ·have:=listed_is kids us d w2 ((k1.trans k2).blk hd trivial) hlen (by omega) fun j hj hx=>(ih1 hA1 hN.kids.1 j hj hx).mono (k1.trans k2)
    rw [←hlen]at this
    exact this
   ·rintro e w2 ⟨y,ls,rfl,k2,hl,hd⟩
    exact⟨_,_,rfl,k2,.list hl .nil,hd⟩
 | map hd hb hp hk hs ih1 ih2=>
   rename_i o r clock ps qs vs es xs
   intro hA hN
   obtain⟨hA1,hA2,hA3,hA4⟩:=hA.map_inv
   refine cons (fun w1 k1=>?_) (ih2 hA4 hN.tail)
   have hA1':=hA1.perm hp
   have hN':=hN.kids.1.perm hp
   obtain⟨hlen,htwo⟩:=GVs.two (f:=fun x=>x) hk
   have hpl:=hp.length_eq
   have hlenf:=hk.len
   have hok':=hA3.perm hp
   have PO:=PC r es clock qs hd hb (by simpa using hlen) (by omega) hok' fun j hj he=>by
    have h2:=(htwo j hj (by simpa using he)).1
    refine⟨by simpa using h2.leaf (hok'.kinds _ (List.getElem_mem hj)),able_key hok' hA1' j hj,?_⟩
    obtain⟨f1,f2,_,f4⟩:=flat2_get qs j hj
    have:=ih1 hA1' hN' (2*j+1) f2 (by rw [←hlenf];exact f2)
    rw [f4]at this
    have e:(es.toList.flatMap fun e=>[e.key,e.val])[2*j+1]'(by rw [←hlenf];exact f2)=es[j].val:=by
     exact flat_get (fun e=>e.key) es.toList j (by simpa using he) _
    rwa [e]at this
   refine(vsub_pairs (some r) (fun us=>∃qs',qs.Perm qs'∧Sims (flat2 qs') us) w1 fun w2 k2=>PO w2 (k1.trans k2)).mono ?_
   rintro e w2 ⟨y,ls,rfl,k2,⟨qs',hq,hl⟩,hd⟩
   refine⟨_,_,rfl,k2,.map (hp.trans hq) (fun q hq=>?_) hl .nil,hd⟩
   have:=hA3.kinds q hq
   unfold KeyK at this
   omega
 | texts hd hb hp hk hs ih1 ih2=>
   rename_i o r clock ps qs vs es xs
   intro hA hN
   obtain⟨hA1,hA2,hA3,hA4⟩:=hA.map_inv
   refine cons (fun w1 k1=>?_) (ih2 hA4 hN.tail)
   have hA1':=hA1.perm hp
   have hN':=hN.kids.1.perm hp
   obtain⟨hlen,htwo⟩:=GVs.two (f:=fun x=>.iface 9 x) hk
   have hpl:=hp.length_eq
   have hlenf:=hk.len
   have hok':=hA3.perm hp
   have hsz:es.size=qs.length:=by simpa using hlen
   obtain⟨t1,t2,t3⟩:=texts_keys (ks:=fun j=>if h:j<es.size then es[j].key else .nilIface) hok' hA1' fun j hj=>by
    have:=(htwo j hj (by simpa using (by omega:j<es.size))).1
    have he:j<es.size:=by omega
    simpa [he]using this
   have M:∀w2,New w1 w2→TMap w2 r es clock qs:=fun w2 k2=>⟨(k1.trans k2).blk hd trivial,hb,hsz,fun j hj he=>by simpa [he]using t1 j hj,fun j hj he=>by
    obtain⟨f1,f2,_,f4⟩:=flat2_get qs j hj
    have:=ih1 hA1' hN' (2*j+1) f2 (by rw [←hlenf];exact f2)
    rw [f4]at this
    have e:(es.toList.flatMap fun e=>[.iface 9 e.key,e.val])[2*j+1]'(by rw [←hlenf];exact f2)=es[j].val:=by
     exact flat_get (fun e=>.iface 9 e.key) es.toList j (by simpa using he) _
    rw [e]at this
    exact this.mono (k1.trans k2),t2⟩
   refine(vsub_texts (some r) (fun us=>∃qs',qs.Perm qs'∧Sims (flat2 qs') us) w1 fun w2 k2=>(textPairs_str 19 (.inl rfl) r es clock qs w2 (M w2 k2) (by omega) t3).mono ?_).mono ?_
   ·rintro e w' ⟨s,us,qs',rfl,k,hq,hl,_,hd⟩
    exact⟨s,us,rfl,k,⟨qs',hq,hl⟩,hd⟩
   ·rintro e w2 ⟨y,ls,rfl,k2,⟨qs',hq,hl⟩,hd⟩
    refine⟨_,_,rfl,k2,.map (hp.trans hq) (fun q hq=>?_) hl .nil,hd⟩
    have:=hA3.kinds q hq
    unfold KeyK at this
    omega
 | arr h hne hs ih=>
   intro hA hN
   obtain⟨⟨k,hk⟩,hm,hne,hA2⟩:=hA.arr_inv
   refine cons ?_ (ih hA2 hN.tail)
   refine valued_arr h hne hm (k:=k) ?_ (fun v hv=>⟨(hk.all v hv).1,(hk.all v hv).2.1⟩) _
   obtain⟨a,r,rfl⟩:=List.exists_cons_of_ne_nil hne
   have h1:=hN.kids.2 rfl a (List.mem_cons_self ..)
   have h2:=(hk.all a (List.mem_cons_self ..)).1
   have h3:=hk.kind
   omega
end Go.Proofs.YtfoegolfadhmjaaGreatDoor
namespace Go.Proofs.YtfoegolfadhmjaaGreatDoor
open Go.RowKit Go.WideShapes
theorem ulong_reads{c:Nat}{od:Int}{d:List UInt8}(hd:Leaf (.mk 5 c [] [] od []) d)(g:Nat)(r:List UInt8)(w:World)(H:Buf w g (d++r)):
 Calls Tryz.prog 93 #[.pointer (some ⟨g,0,none⟩)] w fun e w'=>e=.returned (.tuple #[.int .u64 (c:Int),.nilIface])∧Adv g r w w':=by
 cases hd with
 | u64z o=>exact readUlong_44 g r w H
 | u64s n o h=>
   have hb:(UInt8.ofNat (c/256 ^ 0 % 256)).toNat=c:=by simp;omega
   have:=readUlong_53 g (UInt8.ofNat (c/256 ^ 0 % 256)) r w (by simpa [beB]using H)
   rw [hb]at this
   exact this
 | u64 n o h=>
   have:=readUlong_80 g (beB 8 c) (beB_len _ _) r w (by simpa using H)
   rw [beNat_beB _ _ (by simpa using h)]at this
   exact this
theorem readList_0(g:Nat)(r:List UInt8)(w:World)(H:Buf w g (69::r)):
 Calls Tryz.prog 94 #[.pointer (some ⟨g,0,none⟩)] w fun e w'=>e=.returned (.tuple #[.int .i64 0,.nilIface])∧Adv g r w w':=by
 have hlen:=H.len
 go_enter Tryz.func94,Tryz.ntmps94
 go_wp2_with fail
 refine(readType_is g 69 r _ H).mono ?_
 rintro e w1 ⟨rfl,h1⟩
 go_wp2_with fail
 refine(buf_Len g r w1 h1.2).mono ?_
 rintro e w2 ⟨rfl,h2⟩
 go_wp2
 go_ret2
 exact⟨rfl,h1.trans h2⟩
def LHd(n:Nat)(body h:List UInt8):Prop:=n=0∧h=[69]∧body=[]∨Hd 192 208 n body h
theorem compHead(g c n:Nat)(od:Int)(d lb body r:List UInt8)(hc:c<256)(hd:Leaf (.mk 5 c [] [] od []) d)(Hh:LHd n body lb)(hn:n≤body.length)(hmax:n≤65536)(w:World)(H:Buf w g (0::(d++(lb++(body++r))))):
 Calls Tryz.prog 78 #[.pointer (some ⟨g,0,none⟩)] w fun e w'=>e=.returned (.tuple #[.int .u8 (c:Int),.int .i64 (n:Int),.nilIface])∧Adv g (body++r) w w':=by
 have hu:IntKind.u8.wrap (c:Int)=c:=by rw [IntKind.wrap_u8];omega
 have head:∀w1,Buf w1 g (lb++(body++r))→Calls Tryz.prog 94 #[.pointer (some ⟨g,0,none⟩)] w1 fun e w'=>e=.returned (.tuple #[.int .i64 (n:Int),.nilIface])∧Adv g (body++r) w1 w':=fun w1 B1=>by
  rcases Hh with⟨rfl,rfl,rfl⟩ | Hh
  ·exact readList_0 g r w1 B1
  ·exact listHead g n body r lb Hh hn hmax w1 B1
 have HH:=Lib.hid head
 have HD:=Lib.hid hd
 clear head Hh hd
 go_enter Tryz.func78,Tryz.ntmps78
 go_wp2_with fail
 refine(readType_is g 0 _ _ H).mono ?_
 rintro e w1 ⟨rfl,h1⟩
 go_wp2_with fail
 refine(ulong_reads HD.out g _ _ h1.2).mono ?_
 rintro e w2 ⟨rfl,h2⟩
 go_wp2_with fail
 refine(HH.out _ h2.2).mono ?_
 rintro e w3 ⟨rfl,h3⟩
 go_wp2
 refine bodyPost_ret (v:=.tuple #[.int .u8 (c:Int),.int .i64 (n:Int),.nilIface]) (by simp [results,Tryz.results78,go_sem]) rfl ⟨rfl,(h1.trans h2).trans h3⟩
end Go.Proofs.YtfoegolfadhmjaaGreatDoor
namespace Go.Proofs.YtfoegolfadhmjaaGreatDoor
open Go.RowKit Go.WideShapes
theorem neq_nilFunc(w:World):(binOp BinOp.neq 128 .nilFunc .nilFunc).run Tryz.prog w=.ok (.bool false) w:=by kernel_rfl
theorem neq_func(k:FuncId)(C:Array Value)(w:World):(binOp BinOp.neq 128 (.func (.func k) #[] C) .nilFunc).run Tryz.prog w=.ok (.bool true) w:=by kernel_rfl
attribute [local go_sem] neq_nilFunc neq_func
def FieldStep(g:Nat)(T:TypeId)(p f:Value)(b rem:List UInt8)(w:World)(Q:World→Prop):Prop:=
 b=[64]∧(∀w',Adv g rem w w'→f=.nilFunc∧Q w'∨∃v,f=.func (.func 74) #[] #[v]∧Calls Tryz.prog 74 #[v] w' fun e w2=>e=.returned .nilIface∧Q w2)∨
 ∃b0 b',b=b0::b'∧b0≠64∧∀w',Adv g (b++rem) w w'→Calls Tryz.prog 80 #[.pointer (some ⟨g,0,none⟩),.iface T p] w' fun e w2=>e=.returned .nilIface∧Q w2
theorem composite_is(g c n nf s:Nat)(od:Int)(d lb r:List UInt8)(bs:List (List UInt8))(hc:c<256)(hd:Leaf (.mk 5 c [] [] od []) d)(Hh:LHd n bs.flatten lb)(hbn:bs.length=n)(hnn:n≤nf)(hnf:nf≤100)(hlen:n≤bs.flatten.length)
 (T:Nat→TypeId) (p f:Nat→Value) (hf:∀i,i<nf→f i=.nilFunc∨∃k C,f i=.func (.func k) #[] C)
 (P:Nat→List UInt8→World→Prop)
 (hF:∀j rem w,P j rem w→Buf w g rem∧∀i,i<nf→w.cell? ⟨s,i*2,none⟩=some (.iface (T i) (p i))∧w.cell? ⟨s,i*2+1,none⟩=some (f i))
 (hK:∀j rem w w',P j rem w→New w w'→P j rem w')
 (hstep:∀j (hj:j<bs.length) rem w,P j (bs[j]++rem) w→FieldStep g (T j) (p j) (f j) bs[j] rem w (P (j+1) rem))
 (hend:∀j w,n≤j→j<nf→P j r w→f j=.nilFunc∧P (j+1) r w∨∃v,f j=.func (.func 74) #[] #[v]∧Calls Tryz.prog 74 #[v] w fun e w2=>e=.returned .nilIface∧P (j+1) r w2)
 (w:World) (H:Buf w g (0::(d++(lb++(bs.flatten++r))))) (hstart:∀w',Adv g (bs.flatten++r) w w'→P 0 (bs.flatten++r) w'):
 Calls Tryz.prog 54 #[.pointer (some ⟨g,0,none⟩),.int .u8 (c:Int),.slice (some ⟨s,0,none⟩) nf nf] w fun e w'=>e=.returned .nilIface∧P nf r w':=by
 have t1:decide (nf<n)=false:=by simp;omega
 have HS:=Lib.hid hstep
 have HE:=Lib.hid hend
 have HF:=Lib.hid hF
 have HK:=Lib.hid hK
 have ST:=Lib.hid hstart
 have HFF:=Lib.hid hf
 have HD:=Lib.hid hd
 have HB:=Lib.hid hbn
 have HL:=Lib.hid Hh
 clear hstep hend hF hK hstart hf hd hbn Hh
 go_enter Tryz.func54,Tryz.ntmps54
 go_wp2_with fail
 refine(compHead g c n od d lb bs.flatten r hc HD.out HL.out hlen (by omega) _ H).mono ?_
 rintro e w1 ⟨rfl,h1⟩
 have hP0:=ST.out w1 h1
 go_wp2_with fail
 go_loopg [36] n (fun k s36 wr=>∃j:Nat,j+k=n∧s36=.int .i64 (j:Int)∧P j ((bs.drop j).flatten++r) wr)
 case atStart=>exact⟨0,by omega,rfl,hP0⟩
 case round=>
  obtain⟨j,hj,rfl,hP⟩:=hrel
  rcases gk with _ | k
  ·obtain rfl:j=n:=by omega
   rw [←HB.out,List.drop_length,List.flatten_nil,List.nil_append,HB.out]at hP
   by_cases hnj:nf=j
   ·subst hnj
    go_wp2_with fail
    go_loopg [63] 0 (fun k s63 wr=>k=0∧s63=.int .i64 (0:Int)∧P nf r wr)
    case atStart=>exact⟨rfl,rfl,hP⟩
    case round=>
     obtain⟨rfl,rfl,hQ⟩:=hrel
     go_wp2
     go_ret
     exact⟨rfl,hQ⟩
   ·go_wp2_with fail
    go_loopg [63] (nf-j) (fun k s63 wr=>∃i:Nat,i+k=nf-j∧s63=.int .i64 (i:Int)∧P (j+i) r wr)
    case atStart=>exact⟨0,by omega,rfl,hP⟩
    case round=>
     obtain⟨i,hi,rfl,hQ⟩:=hrel
     rcases gk with _ | k
     ·obtain rfl:i=nf-j:=by omega
      rw [show j+(nf-j)=nf by omega]at hQ
      go_wp2
      go_ret
      exact⟨rfl,hQ⟩
     ·have ti:decide (i<nf-j)=true:=by simp;omega
      have ti2:i<nf-j:=by omega
      have hc:=(HF.out _ _ _ hQ).2 (j+i) (by omega)
      rw [Nat.add_mul]at hc
      obtain⟨c0,c1⟩:=hc
      have hal:∀o,P (j+i) r (wr.alloc o):=fun o=>HK.out _ _ _ _ hQ ((Keep.refl _ _).alloc o)
      have hff:=HFF.out (j+i) (by omega)
      obtain⟨fv,hfv⟩:∃fv,fv=f (j+i):=⟨_,rfl⟩
      rw [←hfv]at c1 hff
      have hex:=HE.out (j+i) (wr.alloc (.cells #[.iface (T (j+i)) (p (j+i)),fv] 130)) (by omega) (by omega) (hal _)
      rw [←hfv]at hex
      have HX:=Lib.hid hex
      clear hex hfv hal
      rcases hff with rfl | ⟨kk,C,rfl⟩
      ·go_wp2
       go_roundg k
       case measure=>omega
       case rel=>
        refine⟨i+1,by omega,congrArg _ (by omega),?_⟩
        rcases HX.out with⟨_,h⟩ | ⟨v,h,_⟩
        ·exact h
        ·cases h
      ·have hk:kk=74:=by
        rcases HX.out with⟨h,_⟩ | ⟨v,h,_⟩
        ·cases h
        ·cases h;rfl
       subst hk
       go_wp2_with fail
       have hcall:=HX.out
       rcases hcall with⟨h,_⟩ | ⟨v,h,hcall⟩
       ·cases h
       ·cases h
        refine hcall.mono ?_
        rintro e w2 ⟨rfl,hP2⟩
        go_wp2
        go_roundg k
        case measure=>omega
        case rel=>exact⟨i+1,by omega,congrArg _ (by omega),hP2⟩
  ·have hjn:j<n:=by omega
   have tj:decide (j<n)=true:=by simpa using hjn
   have hjb:j<bs.length:=by rw [HB.out];exact hjn
   rw [List.drop_eq_getElem_cons hjb,List.flatten_cons,List.append_assoc]at hP
   obtain⟨rem,hrem⟩:∃rem,rem=(bs.drop (j+1)).flatten++r:=⟨_,rfl⟩
   rw [←hrem]at hP
   obtain⟨c0,c1⟩:=(HF.out _ _ _ hP).2 j (by omega)
   have hff:=HFF.out j (by omega)
   obtain⟨fv,hfv⟩:∃fv,fv=f j:=⟨_,rfl⟩
   rw [←hfv]at c1 hff
   have hal:=HK.out _ _ _ (wr.alloc (.cells #[.iface (T j) (p j),fv] 130)) hP ((Keep.refl _ _).alloc _)
   have hg:=(HF.out _ _ _ hP).1.lt
   have hB:=(HF.out _ _ _ hal).1
   have hst:=HS.out j hjb rem _ hal
   rw [←hfv]at hst
   have HR:=Lib.hid hrem
   clear hrem hfv hP
   have hnew:=blk_new wr (.cells #[.iface (T j) (p j),fv] 130)
   rcases hst with⟨hb,hst⟩ | ⟨b0,b',hb,hb0,hst⟩
   ·rw [hb]at hB
    have HX:=Lib.hid hst
    clear hst
    rcases hff with rfl | ⟨kk,C,rfl⟩
    ·go_wp2_with fail
     refine(tryReadNull_yes g rem _ hB).mono ?_
     rintro e w2 ⟨rfl,h2⟩
     have hn2:w2.heap[wr.heap.size]? =_:=h2.1.blk hnew (show wr.heap.size≠g by omega)
     have d1:=(blk_cell hn2 1).trans rfl
     go_wp2
     go_roundg k
     case measure=>omega
     case rel=>
      refine⟨j+1,by omega,congrArg _ (by omega),?_⟩
      rw [←HR.out]
      rcases HX.out w2 h2 with⟨_,h⟩ | ⟨v,h,_⟩
      ·exact h
      ·cases h
    ·go_wp2_with fail
     refine(tryReadNull_yes g rem _ hB).mono ?_
     rintro e w2 ⟨rfl,h2⟩
     have hn2:w2.heap[wr.heap.size]? =_:=h2.1.blk hnew (show wr.heap.size≠g by omega)
     have d1:=(blk_cell hn2 1).trans rfl
     have hx:=HX.out w2 h2
     rcases hx with⟨h,_⟩ | ⟨v,h,hcall⟩
     ·cases h
     ·cases h
      go_wp2_with fail
      refine hcall.mono ?_
      rintro e w3 ⟨rfl,hP3⟩
      go_wp2
      go_roundg k
      case measure=>omega
      case rel=>
       refine⟨j+1,by omega,congrArg _ (by omega),?_⟩
       rw [←HR.out]
       exact hP3
   ·rw [hb]at hB
    have HX:=Lib.hid hst
    clear hst
    have hfs:∃u,u=fv:=⟨_,rfl⟩
    rcases hff with rfl | ⟨kk,C,rfl⟩
    all_goals
     go_wp2_with fail
     refine(tryReadNull_no g b0 (b'++rem) _ hB hb0).mono ?_
     rintro e w2 ⟨rfl,h2⟩
     have hn2:w2.heap[wr.heap.size]? =_:=h2.1.blk hnew (show wr.heap.size≠g by omega)
     have d0:=(blk_cell hn2 0).trans rfl
     have hx:=HX.out w2 (by rw [hb];exact h2)
     go_wp2_with fail
     refine hx.mono ?_
     rintro e w3 ⟨rfl,hP3⟩
     go_wp2
     go_roundg k
     case measure=>omega
     case rel=>
      refine⟨j+1,by omega,congrArg _ (by omega),?_⟩
      rw [←HR.out]
      exact hP3
end Go.Proofs.YtfoegolfadhmjaaGreatDoor
namespace Go.Proofs.YtfoegolfadhmjaaGreatDoor
open Go.RowKit Go.WideShapes
theorem unm_bool(g:Nat)(p:Addr)(hpg:p.block≠g)(b0:UInt8)(b r:List UInt8)(hb:b0≠64)(x:Bool)(hr:∀w1,Buf w1 g (b0::(b++r))→Calls Tryz.prog 109 #[.pointer (some ⟨g,0,none⟩)] w1 fun e w'=>e=.returned (.tuple #[.bool x,.nilIface])∧Adv g r w1 w')
 (w:World) (u:Value) (hc:w.cell? p=some u) (hf:w.frozen? p=false) (B:Buf w g (b0::(b++r))):
 Calls Tryz.prog 80 #[.pointer (some ⟨g,0,none⟩),.iface 63 (.pointer (some p))] w fun e w'=>e=.returned .nilIface∧∃w1,w'=w1.setCell p (.bool x)∧Adv g r w w1:=by
 have HR:=Lib.hid hr
 have HP:=Lib.hid hpg
 have hlt:=cell_lt hc
 clear hr hpg
 go_enter Tryz.func80,Tryz.ntmps80
 go_wp2_with fail
 refine(tryReadNull_no g b0 (b++r) _ B hb).mono ?_
 rintro e w1 ⟨rfl,h1⟩
 have hc1:=h1.1.cell hc HP.out
 have hf1:w1.frozen? p=false:=(h1.1.free hlt HP.out).trans hf
 go_wp2_with fail
 refine(HR.out _ h1.2).mono ?_
 rintro e w2 ⟨rfl,h2⟩
 have hc2:=h2.1.cell hc1 HP.out
 have hf2:w2.frozen? p=false:=(h2.1.free (cell_lt hc1) HP.out).trans hf1
 go_wp2
 go_ret
 exact⟨rfl,w2,rfl,h1.trans h2⟩
theorem unm_u32(g:Nat)(p:Addr)(hpg:p.block≠g)(b0:UInt8)(b r:List UInt8)(hb:b0≠64)(x:Int)(hr:∀w1,Buf w1 g (b0::(b++r))→Calls Tryz.prog 102 #[.pointer (some ⟨g,0,none⟩)] w1 fun e w'=>e=.returned (.tuple #[.int .u32 x,.nilIface])∧Adv g r w1 w')
 (w:World) (u:Value) (hc:w.cell? p=some u) (hf:w.frozen? p=false) (B:Buf w g (b0::(b++r))):
 Calls Tryz.prog 80 #[.pointer (some ⟨g,0,none⟩),.iface 125 (.pointer (some p))] w fun e w'=>e=.returned .nilIface∧∃w1,w'=w1.setCell p (.int .u32 x)∧Adv g r w w1:=by
 have HR:=Lib.hid hr
 have HP:=Lib.hid hpg
 have hlt:=cell_lt hc
 clear hr hpg
 go_enter Tryz.func80,Tryz.ntmps80
 go_wp2_with fail
 refine(tryReadNull_no g b0 (b++r) _ B hb).mono ?_
 rintro e w1 ⟨rfl,h1⟩
 have hc1:=h1.1.cell hc HP.out
 have hf1:w1.frozen? p=false:=(h1.1.free hlt HP.out).trans hf
 go_wp2_with fail
 refine(HR.out _ h1.2).mono ?_
 rintro e w2 ⟨rfl,h2⟩
 have hc2:=h2.1.cell hc1 HP.out
 have hf2:w2.frozen? p=false:=(h2.1.free (cell_lt hc1) HP.out).trans hf1
 go_wp2
 go_ret
 exact⟨rfl,w2,rfl,h1.trans h2⟩
theorem unm_u16(g:Nat)(p:Addr)(hpg:p.block≠g)(b0:UInt8)(b r:List UInt8)(hb:b0≠64)(x:Int)(hr:∀w1,Buf w1 g (b0::(b++r))→Calls Tryz.prog 103 #[.pointer (some ⟨g,0,none⟩)] w1 fun e w'=>e=.returned (.tuple #[.int .u16 x,.nilIface])∧Adv g r w1 w')
 (w:World) (u:Value) (hc:w.cell? p=some u) (hf:w.frozen? p=false) (B:Buf w g (b0::(b++r))):
 Calls Tryz.prog 80 #[.pointer (some ⟨g,0,none⟩),.iface 108 (.pointer (some p))] w fun e w'=>e=.returned .nilIface∧∃w1,w'=w1.setCell p (.int .u16 x)∧Adv g r w w1:=by
 have HR:=Lib.hid hr
 have HP:=Lib.hid hpg
 have hlt:=cell_lt hc
 clear hr hpg
 go_enter Tryz.func80,Tryz.ntmps80
 go_wp2_with fail
 refine(tryReadNull_no g b0 (b++r) _ B hb).mono ?_
 rintro e w1 ⟨rfl,h1⟩
 have hc1:=h1.1.cell hc HP.out
 have hf1:w1.frozen? p=false:=(h1.1.free hlt HP.out).trans hf
 go_wp2_with fail
 refine(HR.out _ h1.2).mono ?_
 rintro e w2 ⟨rfl,h2⟩
 have hc2:=h2.1.cell hc1 HP.out
 have hf2:w2.frozen? p=false:=(h2.1.free (cell_lt hc1) HP.out).trans hf1
 go_wp2
 go_ret
 exact⟨rfl,w2,rfl,h1.trans h2⟩
theorem unm_str(g:Nat)(p:Addr)(hpg:p.block≠g)(b0:UInt8)(b r:List UInt8)(hb:b0≠64)(x:ByteArray)(hr:∀w1,Buf w1 g (b0::(b++r))→Calls Tryz.prog 107 #[.pointer (some ⟨g,0,none⟩)] w1 fun e w'=>e=.returned (.tuple #[.string x,.nilIface])∧Adv g r w1 w')
 (w:World) (u:Value) (hc:w.cell? p=some u) (hf:w.frozen? p=false) (B:Buf w g (b0::(b++r))):
 Calls Tryz.prog 80 #[.pointer (some ⟨g,0,none⟩),.iface 148 (.pointer (some p))] w fun e w'=>e=.returned .nilIface∧∃w1,w'=w1.setCell p (.string x)∧Adv g r w w1:=by
 have HR:=Lib.hid hr
 have HP:=Lib.hid hpg
 have hlt:=cell_lt hc
 clear hr hpg
 go_enter Tryz.func80,Tryz.ntmps80
 go_wp2_with fail
 refine(tryReadNull_no g b0 (b++r) _ B hb).mono ?_
 rintro e w1 ⟨rfl,h1⟩
 have hc1:=h1.1.cell hc HP.out
 have hf1:w1.frozen? p=false:=(h1.1.free hlt HP.out).trans hf
 go_wp2_with fail
 refine(HR.out _ h1.2).mono ?_
 rintro e w2 ⟨rfl,h2⟩
 have hc2:=h2.1.cell hc1 HP.out
 have hf2:w2.frozen? p=false:=(h2.1.free (cell_lt hc1) HP.out).trans hf1
 go_wp2
 go_ret
 exact⟨rfl,w2,rfl,h1.trans h2⟩
theorem unm_textMap(g:Nat)(p:Addr)(hpg:p.block≠g)(b0:UInt8)(b r:List UInt8)(hb:b0≠64)(Q:World→Value→World→Prop)(w:World)(u:Value)(hc:w.cell? p=some u)(hf:w.frozen? p=false)(B:Buf w g (b0::(b++r)))
 (hr:∀w1,Adv g (b0::(b++r)) w w1→w1.cell? p=some u→w1.frozen? p=false→Buf w1 g (b0::(b++r))→Calls Tryz.prog 129 #[.pointer (some p),.pointer (some ⟨g,0,none⟩)] w1 fun e w'=>e=.returned .nilIface∧∃sl w2,w'=w2.setCell p sl∧Adv g r w1 w2∧Q w1 sl w2):
 Calls Tryz.prog 80 #[.pointer (some ⟨g,0,none⟩),.iface 149 (.pointer (some p))] w fun e w'=>e=.returned .nilIface∧∃sl w1 w2,w'=w2.setCell p sl∧Adv g (b0::(b++r)) w w1∧Adv g r w1 w2∧Q w1 sl w2:=by
 have HR:=Lib.hid hr
 have HP:=Lib.hid hpg
 have hlt:=cell_lt hc
 clear hr hpg
 go_enter Tryz.func80,Tryz.ntmps80
 go_wp2_with fail
 refine(tryReadNull_no g b0 (b++r) _ B hb).mono ?_
 rintro e w1 ⟨rfl,h1⟩
 have hc1:=h1.1.cell hc HP.out
 have hf1:w1.frozen? p=false:=(h1.1.free hlt HP.out).trans hf
 go_wp2_with fail
 refine(HR.out _ h1 hc1 hf1 h1.2).mono ?_
 rintro e w3 ⟨rfl,sl,w2,rfl,h2,hq⟩
 go_wp2
 go_ret
 exact⟨rfl,sl,w1,w2,rfl,h1,h2,hq⟩
theorem unm_symMap(g:Nat)(p:Addr)(hpg:p.block≠g)(b0:UInt8)(b r:List UInt8)(hb:b0≠64)(Q:World→Value→World→Prop)(w:World)(u:Value)(hc:w.cell? p=some u)(hf:w.frozen? p=false)(B:Buf w g (b0::(b++r)))
 (hr:∀w1,Adv g (b0::(b++r)) w w1→w1.cell? p=some u→w1.frozen? p=false→Buf w1 g (b0::(b++r))→Calls Tryz.prog 130 #[.pointer (some p),.pointer (some ⟨g,0,none⟩)] w1 fun e w'=>e=.returned .nilIface∧∃sl w2,w'=w2.setCell p sl∧Adv g r w1 w2∧Q w1 sl w2):
 Calls Tryz.prog 80 #[.pointer (some ⟨g,0,none⟩),.iface 155 (.pointer (some p))] w fun e w'=>e=.returned .nilIface∧∃sl w1 w2,w'=w2.setCell p sl∧Adv g (b0::(b++r)) w w1∧Adv g r w1 w2∧Q w1 sl w2:=by
 have HR:=Lib.hid hr
 have HP:=Lib.hid hpg
 have hlt:=cell_lt hc
 clear hr hpg
 go_enter Tryz.func80,Tryz.ntmps80
 go_wp2_with fail
 refine(tryReadNull_no g b0 (b++r) _ B hb).mono ?_
 rintro e w1 ⟨rfl,h1⟩
 have hc1:=h1.1.cell hc HP.out
 have hf1:w1.frozen? p=false:=(h1.1.free hlt HP.out).trans hf
 go_wp2_with fail
 refine(HR.out _ h1 hc1 hf1 h1.2).mono ?_
 rintro e w3 ⟨rfl,sl,w2,rfl,h2,hq⟩
 go_wp2
 go_ret
 exact⟨rfl,sl,w1,w2,rfl,h1,h2,hq⟩
theorem unm_syms(g:Nat)(p:Addr)(hpg:p.block≠g)(b0:UInt8)(b r:List UInt8)(hb:b0≠64)(Q:World→Value→World→Prop)(w:World)(u:Value)(hc:w.cell? p=some u)(hf:w.frozen? p=false)(B:Buf w g (b0::(b++r)))
 (hr:∀w1,Adv g (b0::(b++r)) w w1→w1.cell? p=some u→w1.frozen? p=false→Buf w1 g (b0::(b++r))→Calls Tryz.prog 122 #[.pointer (some p),.pointer (some ⟨g,0,none⟩)] w1 fun e w'=>e=.returned .nilIface∧∃sl w2,w'=w2.setCell p sl∧Adv g r w1 w2∧Q w1 sl w2):
 Calls Tryz.prog 80 #[.pointer (some ⟨g,0,none⟩),.iface 253 (.pointer (some p))] w fun e w'=>e=.returned .nilIface∧∃sl w1 w2,w'=w2.setCell p sl∧Adv g (b0::(b++r)) w w1∧Adv g r w1 w2∧Q w1 sl w2:=by
 have HR:=Lib.hid hr
 have HP:=Lib.hid hpg
 have hlt:=cell_lt hc
 clear hr hpg
 go_enter Tryz.func80,Tryz.ntmps80
 go_wp2_with fail
 refine(tryReadNull_no g b0 (b++r) _ B hb).mono ?_
 rintro e w1 ⟨rfl,h1⟩
 have hc1:=h1.1.cell hc HP.out
 have hf1:w1.frozen? p=false:=(h1.1.free hlt HP.out).trans hf
 go_wp2_with fail
 refine(HR.out _ h1 hc1 hf1 h1.2).mono ?_
 rintro e w3 ⟨rfl,sl,w2,rfl,h2,hq⟩
 go_wp2
 go_ret
 exact⟨rfl,sl,w1,w2,rfl,h1,h2,hq⟩
end Go.Proofs.YtfoegolfadhmjaaGreatDoor
namespace Go.Proofs.YtfoegolfadhmjaaGreatDoor
open Go.RowKit Go.WideShapes
theorem ti147(w:World)(v:Value):(Instr.typeAssert (.iface 147 v) 20 293 true).run Tryz.prog w=.ok (.tuple #[.iface 147 v,.bool true]) w:=by kernel_rfl
theorem ti154(w:World)(v:Value):(Instr.typeAssert (.iface 154 v) 20 293 true).run Tryz.prog w=.ok (.tuple #[.iface 154 v,.bool true]) w:=by kernel_rfl
theorem ti170(w:World)(v:Value):(Instr.typeAssert (.iface 170 v) 20 293 true).run Tryz.prog w=.ok (.tuple #[.iface 170 v,.bool true]) w:=by kernel_rfl
theorem ti176(w:World)(v:Value):(Instr.typeAssert (.iface 176 v) 20 293 true).run Tryz.prog w=.ok (.tuple #[.iface 176 v,.bool true]) w:=by kernel_rfl
theorem ti68(w:World)(v:Value):(Instr.typeAssert (.iface 68 v) 20 293 true).run Tryz.prog w=.ok (.tuple #[.iface 68 v,.bool true]) w:=by kernel_rfl
attribute [go_sem] ti147 ti154 ti170 ti176 ti68
theorem unm_errCond(g:Nat)(p:Addr)(b0:UInt8)(b:List UInt8)(hb:b0≠64)(Q:World→Prop)(w:World)(B:Buf w g (b0::b))
 (hr:∀w1,Adv g (b0::b) w w1→Calls Tryz.prog 354 #[.pointer (some p),.pointer (some ⟨g,0,none⟩)] w1 fun e w'=>e=.returned .nilIface∧Q w'):
 Calls Tryz.prog 80 #[.pointer (some ⟨g,0,none⟩),.iface 147 (.pointer (some p))] w fun e w'=>e=.returned .nilIface∧Q w':=by
 have HR:=Lib.hid hr
 clear hr
 go_enter Tryz.func80,Tryz.ntmps80
 go_wp2_with fail
 refine(tryReadNull_no g b0 b _ B hb).mono ?_
 rintro e w1 ⟨rfl,h1⟩
 go_wp2_with fail
 refine(HR.out _ h1).mono ?_
 rintro e w2 ⟨rfl,h2⟩
 go_wp2
 go_ret
 exact⟨rfl,h2⟩
theorem unm_multi(g:Nat)(p:Addr)(b0:UInt8)(b:List UInt8)(hb:b0≠64)(Q:World→Prop)(w:World)(B:Buf w g (b0::b))
 (hr:∀w1,Adv g (b0::b) w w1→Calls Tryz.prog 355 #[.pointer (some p),.pointer (some ⟨g,0,none⟩)] w1 fun e w'=>e=.returned .nilIface∧Q w'):
 Calls Tryz.prog 80 #[.pointer (some ⟨g,0,none⟩),.iface 154 (.pointer (some p))] w fun e w'=>e=.returned .nilIface∧Q w':=by
 have HR:=Lib.hid hr
 clear hr
 go_enter Tryz.func80,Tryz.ntmps80
 go_wp2_with fail
 refine(tryReadNull_no g b0 b _ B hb).mono ?_
 rintro e w1 ⟨rfl,h1⟩
 go_wp2_with fail
 refine(HR.out _ h1).mono ?_
 rintro e w2 ⟨rfl,h2⟩
 go_wp2
 go_ret
 exact⟨rfl,h2⟩
theorem unm_ptrErr(g:Nat)(p:Addr)(b0:UInt8)(b:List UInt8)(hb:b0≠64)(Q:World→Prop)(w:World)(B:Buf w g (b0::b))
 (hr:∀w1,Adv g (b0::b) w w1→Calls Tryz.prog 357 #[.agg #[.pointer (some p)],.pointer (some ⟨g,0,none⟩)] w1 fun e w'=>e=.returned .nilIface∧Q w'):
 Calls Tryz.prog 80 #[.pointer (some ⟨g,0,none⟩),.iface 170 (.agg #[.pointer (some p)])] w fun e w'=>e=.returned .nilIface∧Q w':=by
 have HR:=Lib.hid hr
 clear hr
 go_enter Tryz.func80,Tryz.ntmps80
 go_wp2_with fail
 refine(tryReadNull_no g b0 b _ B hb).mono ?_
 rintro e w1 ⟨rfl,h1⟩
 go_wp2_with fail
 refine(HR.out _ h1).mono ?_
 rintro e w2 ⟨rfl,h2⟩
 go_wp2
 go_ret
 exact⟨rfl,h2⟩
theorem unm_err(g:Nat)(p:Addr)(b0:UInt8)(b:List UInt8)(hb:b0≠64)(Q:World→Prop)(w:World)(B:Buf w g (b0::b))
 (hr:∀w1,Adv g (b0::b) w w1→Calls Tryz.prog 41 #[.pointer (some p),.pointer (some ⟨g,0,none⟩)] w1 fun e w'=>e=.returned .nilIface∧Q w'):
 Calls Tryz.prog 80 #[.pointer (some ⟨g,0,none⟩),.iface 68 (.pointer (some p))] w fun e w'=>e=.returned .nilIface∧Q w':=by
 have HR:=Lib.hid hr
 clear hr
 go_enter Tryz.func80,Tryz.ntmps80
 go_wp2_with fail
 refine(tryReadNull_no g b0 b _ B hb).mono ?_
 rintro e w1 ⟨rfl,h1⟩
 go_wp2_with fail
 refine(HR.out _ h1).mono ?_
 rintro e w2 ⟨rfl,h2⟩
 go_wp2
 go_ret
 exact⟨rfl,h2⟩
theorem unm_ptrU16(g:Nat)(p:Addr)(b0:UInt8)(b:List UInt8)(hb:b0≠64)(Q:World→Prop)(w:World)(B:Buf w g (b0::b))
 (hr:∀w1,Adv g (b0::b) w w1→Calls Tryz.prog 358 #[.agg #[.pointer (some p)],.pointer (some ⟨g,0,none⟩)] w1 fun e w'=>e=.returned .nilIface∧Q w'):
 Calls Tryz.prog 80 #[.pointer (some ⟨g,0,none⟩),.iface 176 (.agg #[.pointer (some p)])] w fun e w'=>e=.returned .nilIface∧Q w':=by
 have HR:=Lib.hid hr
 clear hr
 go_enter Tryz.func80,Tryz.ntmps80
 go_wp2_with fail
 refine(tryReadNull_no g b0 b _ B hb).mono ?_
 rintro e w1 ⟨rfl,h1⟩
 go_wp2_with fail
 refine(HR.out _ h1).mono ?_
 rintro e w2 ⟨rfl,h2⟩
 go_wp2
 go_ret
 exact⟨rfl,h2⟩
end Go.Proofs.YtfoegolfadhmjaaGreatDoor
namespace Go.Proofs.YtfoegolfadhmjaaGreatDoor
open Go.RowKit Go.WideShapes
theorem errCond_is(g:Nat)(p:Addr)(hpg:p.block≠g)(t b r:List UInt8)(hr:ReadsT t b)(w:World)(u:Value)(hc:w.cell? p=some u)(hf:w.frozen? p=false)(B:Buf w g (b++r)):
 Calls Tryz.prog 354 #[.pointer (some p),.pointer (some ⟨g,0,none⟩)] w fun e w'=>e=.returned .nilIface∧∃w1,w'=w1.setCell p (.string ⟨t.toArray⟩)∧Adv g r w w1:=by
 have HR:=Lib.hid hr
 have HP:=Lib.hid hpg
 have hlt:=cell_lt hc
 clear hr hpg
 go_enter Tryz.func354,Tryz.ntmps354
 go_wp2_with fail
 refine(HR.out g r w B).mono ?_
 rintro e w1 ⟨rfl,h1⟩
 have hc1:=h1.1.cell hc HP.out
 have hf1:w1.frozen? p=false:=(h1.1.free hlt HP.out).trans hf
 go_wp2
 go_ret
 exact⟨rfl,w1,rfl,h1⟩
theorem error_enter(g b:Nat)(w:World)(Q:World→Prop)
 (hcall:∀w1,New w w1→w1.heap[w.heap.size]? =some (.cells #[.iface 147 (.pointer (some ⟨b,0,none⟩)),.func (.func 66) #[] #[],.iface 148 (.pointer (some ⟨b,1,none⟩)),.nilFunc,.iface 149 (.pointer (some ⟨b,2,none⟩)),.nilFunc] 130 (0,0))→
  Calls Tryz.prog 54 #[.pointer (some ⟨g,0,none⟩),.int .u8 29,.slice (some ⟨w.heap.size,0,none⟩) 3 3] w1 fun e w'=>e=.returned .nilIface∧Q w'):
 Calls Tryz.prog 41 #[.pointer (some ⟨b,0,none⟩),.pointer (some ⟨g,0,none⟩)] w fun e w'=>e=.returned .nilIface∧Q w':=by
 have h0:=hcall (w.alloc (.cells #[.iface 147 (.pointer (some ⟨b,0,none⟩)),.func (.func 66) #[] #[],.iface 148 (.pointer (some ⟨b,1,none⟩)),.nilFunc,.iface 149 (.pointer (some ⟨b,2,none⟩)),.nilFunc] 130)).drew (((Keep.refl _ w).alloc _).drew) (blk_new _ _)
 have HC:=Lib.hid h0
 clear hcall h0
 go_enter Tryz.func41,Tryz.ntmps41
 go_wp2_with fail
 go_region_held3 (fun _=>True) (first | go_keep | trivial)
  (first | (go_at_call 54;refine HC.out.mono ?_;rintro e w4 ⟨rfl,hq⟩))
 go_wp2
 go_ret
 exact⟨rfl,hq⟩
end Go.Proofs.YtfoegolfadhmjaaGreatDoor
namespace Go.Proofs.YtfoegolfadhmjaaGreatDoor
open Go.RowKit Go.WideShapes
def FieldT(t b:List UInt8):Prop:=(b=[64]∧t=[])∨(ReadsT t b∧∃b0 b',b=b0::b'∧b0≠64)
def FieldM(ps:List (V×V))(b:List UInt8):Prop:=
 (b=[64]∧ps=[])∨∃h body,b=h++body∧Hd 193 209 (2*ps.length) body h∧TextsL ps body∧(ps.map fun q=>q.1.text).Nodup∧2*ps.length≤1000∧2*ps.length≤body.length
def InfoD(ok:Nat→Prop)(w:World)(ps:List (V×V))(s:Value):Prop:=(s=.map none∧ps=[])∨TMapD ok w ps s
theorem TMapD.keep{ok ok':Nat→Prop}{w w':World}{ps:List (V×V)}{s:Value}(h:TMapD ok w ps s)(k:Keep ok' w w')(ho:∀k,k<w.heap.size→ok k→ok' k):TMapD ok w' ps s:=by
 obtain⟨m,es,clock,h1,h2,h3,h4,h5⟩:=h
 exact⟨m,es,clock,h1,h2,h3,h4,h5.keep k ho⟩
theorem TMapD.mono{ok ok':Nat→Prop}{w:World}{ps:List (V×V)}{s:Value}(h:TMapD ok w ps s)(ho:∀k,k<w.heap.size→ok k→ok' k):TMapD ok' w ps s:=by
 obtain⟨m,es,clock,h1,h2,h3,h4,h5⟩:=h
 exact⟨m,es,clock,h1,h2,h3,h4,h5.mono ho⟩
theorem InfoD.keep{ok ok':Nat→Prop}{w w':World}{ps:List (V×V)}{s:Value}(h:InfoD ok w ps s)(k:Keep ok' w w')(ho:∀k,k<w.heap.size→ok k→ok' k):InfoD ok w' ps s:=
 h.imp id fun h=>h.keep k ho
theorem Hd.head{k8 k32:UInt8}{n:Nat}{body h:List UInt8}(H:Hd k8 k32 n body h):∃h',h=k8::h'∨h=k32::h':=by
 rcases H with⟨s,c,rfl,_⟩ | ⟨p,q,rfl,_⟩
 ·exact⟨_,.inl rfl⟩
 ·exact⟨_,.inr rfl⟩
theorem Buf.set{w:World}{g b:Nat}{rem:List UInt8}{cs:Array Value}{T:TypeId}(h:Buf w g rem)(hb:w.heap[b]? =some (.cells cs T (0,0)))(hT:T≠5)(hbg:b≠g)(i:Nat)(u:Value):Buf (w.setCell ⟨b,i,none⟩ u) g rem:=by
 obtain⟨d,n,c,k,hg,hdg,⟨cells,hd,hc⟩,hr⟩:=h
 have hdb:d≠b:=fun e=>by
  subst e
  rw [hd]at hb
  simp only [Option.some.injEq,Obj.cells.injEq]at hb
  exact hT hb.2.1.symm
 exact⟨d,n,c,k,blk_far hg (p:=⟨b,i,none⟩) (Ne.symm hbg) _,hdg,⟨cells,blk_far hd (p:=⟨b,i,none⟩) hdb _,hc⟩,hr⟩
def ErrP(w:World)(g b s:Nat)(t0 t1:List UInt8)(ps:List (V×V))(j:Nat)(rem:List UInt8)(wr:World):Prop:=
 ∃c0 c1 c2,Buf wr g rem∧Keep (fun k=>k≠g∧k≠b) w wr∧wr.heap[b]? =some (.cells #[c0,c1,c2] 98 (0,0))∧
  wr.heap[s]? =some (.cells #[.iface 147 (.pointer (some ⟨b,0,none⟩)),.func (.func 66) #[] #[],.iface 148 (.pointer (some ⟨b,1,none⟩)),.nilFunc,.iface 149 (.pointer (some ⟨b,2,none⟩)),.nilFunc] 130 (0,0))∧
  (1≤j→c0=.string ⟨t0.toArray⟩)∧c1=(if 2≤j then .string ⟨t1.toArray⟩else .string ⟨#[]⟩)∧(3≤j→InfoD (fun k=>w.heap.size≤k) wr ps c2)∧(j<3→c2=.map none)
theorem errF(w:World)(b s:Nat)(h:w.heap[s]? =some (.cells #[.iface 147 (.pointer (some ⟨b,0,none⟩)),.func (.func 66) #[] #[],.iface 148 (.pointer (some ⟨b,1,none⟩)),.nilFunc,.iface 149 (.pointer (some ⟨b,2,none⟩)),.nilFunc] 130 (0,0))):
 ∀i,i<3→w.cell? ⟨s,i*2,none⟩=some (.iface (if i=0 then 147 else if i=1 then 148 else 149) (.pointer (some ⟨b,i,none⟩)))∧w.cell? ⟨s,i*2+1,none⟩=some (if i=0 then .func (.func 66) #[] #[]else .nilFunc):=by
 intro i hi
 rw [blk_cell h,blk_cell h]
 match i,hi with
 | 0,_=>exact⟨rfl,rfl⟩
 | 1,_=>exact⟨rfl,rfl⟩
 | 2,_=>exact⟨rfl,rfl⟩
theorem error_is(g b c n:Nat)(od:Int)(d lb r:List UInt8)(bs:List (List UInt8))(hgb:b≠g)(hd:Leaf (.mk 5 29 [] [] od []) d)(Hh:LHd n bs.flatten lb)(hbn:bs.length=n)(hn1:1≤n)(hn3:n≤3)(hlen:n≤bs.flatten.length)
 (t0 t1:List UInt8) (ps:List (V×V)) (h0:∀x,bs[0]? =some x→ReadsT t0 x∧∃b0 b',x=b0::b'∧b0≠64) (h1:∀x,bs[1]? =some x→FieldT t1 x) (h2:∀x,bs[2]? =some x→FieldM ps x) (h1':n<2→t1=[]) (h2':n<3→ps=[])
 (w:World) (hc:w.heap[b]? =some (.cells #[.string ⟨#[]⟩,.string ⟨#[]⟩,.map none] 98 (0,0))) (H:Buf w g (0::(d++(lb++(bs.flatten++r))))):
 Calls Tryz.prog 41 #[.pointer (some ⟨b,0,none⟩),.pointer (some ⟨g,0,none⟩)] w fun e w'=>e=.returned .nilIface∧∃s,w'.heap[b]? =some (.cells #[.string ⟨t0.toArray⟩,.string ⟨t1.toArray⟩,s] 98 (0,0))∧Keep (fun k=>k≠g∧k≠b) w w'∧Buf w' g r∧InfoD (fun k=>w.heap.size≤k) w' ps s:=by
 have hblt:=lt_blk hc
 have hglt:=H.lt
 refine(error_enter g b w (fun w'=>ErrP w g b w.heap.size t0 t1 ps 3 r w') fun w1 k1 hs=>?_).mono ?_
 ·have hc1:=k1.blk hc trivial
  refine composite_is g 29 n 3 w.heap.size od d lb r bs (by omega) hd Hh hbn hn3 (by omega) hlen (fun i=>if i=0 then 147 else if i=1 then 148 else 149) (fun i=>.pointer (some ⟨b,i,none⟩)) (fun i=>if i=0 then .func (.func 66) #[] #[]else .nilFunc)
   (fun i hi=>?_) (ErrP w g b w.heap.size t0 t1 ps) ?_ ?_ ?_ ?_ w1 (H.new k1) ?_
  ·by_cases hi0:i=0
   ·exact .inr ⟨66,#[],by rw [if_pos hi0]⟩
   ·exact .inl (by rw [if_neg hi0])
  ·rintro j rem wr ⟨c0,c1,c2,q1,q2,q3,q4,_⟩
   exact⟨q1,errF wr b _ q4⟩
  ·rintro j rem wr w' ⟨c0,c1,c2,q1,q2,q3,q4,q5,q6,q7,q8⟩ k
   exact⟨c0,c1,c2,q1.new k,q2.trans (k.keep _),k.blk q3 trivial,k.blk q4 trivial,q5,q6,fun hj=>(q7 hj).keep k fun _ _ _=>trivial,q8⟩
  ·intro j hj rem wr hP
   have step:∀w',Adv g (bs[j]++rem) wr w'→ErrP w g b w.heap.size t0 t1 ps j (bs[j]++rem) w':=fun w' ha=>by
    obtain⟨c0,c1,c2,q1,q2,q3,q4,q5,q6,q7,q8⟩:=hP
    have hs2:=k1.size
    exact⟨c0,c1,c2,ha.2,q2.trans (ha.1.mono fun k _ hk=>hk.1),ha.1.blk q3 hgb,ha.1.blk q4 (show w.heap.size≠g by omega),q5,q6,fun hj=>(q7 hj).keep ha.1 fun k _ hk=>by show k≠g;omega,q8⟩
   have hj3:j=0∨j=1∨j=2:=by omega
   rcases hj3 with rfl | rfl | rfl
   ·obtain⟨hr,b0,b',hb,hb0⟩:=h0 bs[0] (by simp [hj])
    refine .inr ⟨b0,b',hb,hb0,fun w' ha=>?_⟩
    obtain⟨c0,c1,c2,q1,q2,q3,q4,q5,q6,q7,q8⟩:=step w' ha
    rw [hb]at q1
    refine unm_errCond g ⟨b,0,none⟩ b0 (b'++rem) hb0 (ErrP w g b w.heap.size t0 t1 ps 1 rem) w' q1 fun w2 ha2=>?_
    have hc2:=ha2.1.blk q3 hgb
    refine(errCond_is g ⟨b,0,none⟩ hgb t0 bs[0] rem hr w2 c0 ((blk_cell hc2 0).trans rfl) (blk_free hc2 0) (by rw [hb];exact ha2.2)).mono ?_
    rintro e w4 ⟨rfl,w3,rfl,ha3⟩
    have hc3:=ha3.1.blk hc2 hgb
    have hs2:=k1.size
    refine⟨rfl,.string ⟨t0.toArray⟩,c1,c2,?_,?_,?_,?_,fun _=>rfl,by simpa using q6,fun h=>absurd h (by omega),fun _=>q8 (by omega)⟩
    ·exact ha3.2.set hc3 (by decide) hgb _ _
    ·exact((q2.trans (ha2.1.mono fun k _ hk=>hk.1)).trans (ha3.1.mono fun k _ hk=>hk.1)).setCell (p:=⟨b,0,none⟩) (.inr (by simp)) _
    ·simpa using blk_set hc3 0 (.string ⟨t0.toArray⟩)
    ·exact blk_far (ha3.1.blk (ha2.1.blk q4 (show w.heap.size≠g by omega)) (show w.heap.size≠g by omega)) (p:=⟨b,0,none⟩) (show w.heap.size≠b by omega) _
   ·rcases h1 bs[1] (by simp [hj])with⟨hb,ht⟩ | ⟨hr,b0,b',hb,hb0⟩
    ·refine .inl ⟨hb,fun w' ha=>.inl ⟨rfl,?_⟩⟩
     obtain⟨c0,c1,c2,q1,q2,q3,q4,q5,q6,q7,q8⟩:=hP
     have hs2:=k1.size
     refine⟨c0,c1,c2,ha.2,q2.trans (ha.1.mono fun k _ hk=>hk.1),ha.1.blk q3 hgb,ha.1.blk q4 (show w.heap.size≠g by omega),fun _=>q5 (by omega),?_,fun h=>absurd h (by omega),fun _=>q8 (by omega)⟩
     rw [q6,if_neg (by omega),if_pos (by omega),ht]
    ·refine .inr ⟨b0,b',hb,hb0,fun w' ha=>?_⟩
     obtain⟨c0,c1,c2,q1,q2,q3,q4,q5,q6,q7,q8⟩:=step w' ha
     rw [hb]at q1
     refine(unm_str g ⟨b,1,none⟩ hgb b0 b' rem hb0 ⟨t1.toArray⟩ (fun w2 B2=>hr g rem w2 (by rw [hb];exact B2)) w' c1 ((blk_cell q3 1).trans rfl) (blk_free q3 1) q1).mono ?_
     rintro e w4 ⟨rfl,w3,rfl,ha3⟩
     have hc3:=ha3.1.blk q3 hgb
     have hs2:=k1.size
     refine⟨rfl,c0,.string ⟨t1.toArray⟩,c2,ha3.2.set hc3 (by decide) hgb _ _,?_,?_,?_,fun _=>q5 (by omega),by rw [if_pos (by omega)],fun h=>absurd h (by omega),fun _=>q8 (by omega)⟩
     ·exact(q2.trans (ha3.1.mono fun k _ hk=>hk.1)).setCell (p:=⟨b,1,none⟩) (.inr (by simp)) _
     ·simpa using blk_set hc3 1 (.string ⟨t1.toArray⟩)
     ·exact blk_far (ha3.1.blk q4 (show w.heap.size≠g by omega)) (p:=⟨b,1,none⟩) (show w.heap.size≠b by omega) _
   ·rcases h2 bs[2] (by simp [hj])with⟨hb,ht⟩ | ⟨h,body,hb,hH,hT,hnd,hmx,hbl⟩
    ·refine .inl ⟨hb,fun w' ha=>.inl ⟨rfl,?_⟩⟩
     obtain⟨c0,c1,c2,q1,q2,q3,q4,q5,q6,q7,q8⟩:=hP
     have hs2:=k1.size
     refine⟨c0,c1,c2,ha.2,q2.trans (ha.1.mono fun k _ hk=>hk.1),ha.1.blk q3 hgb,ha.1.blk q4 (show w.heap.size≠g by omega),fun _=>q5 (by omega),?_,fun _=>.inl ⟨q8 (by omega),ht⟩,fun h=>absurd h (by omega)⟩
     rw [q6,if_pos (by omega),if_pos (by omega)]
    ·obtain⟨h',hh⟩:=hH.head
     have hb':∃b0 b',bs[2]=b0::b'∧b0≠64:=by
      rw [hb]
      rcases hh with rfl | rfl
      ·exact⟨193,h'++body,rfl,by decide⟩
      ·exact⟨209,h'++body,rfl,by decide⟩
     obtain⟨b0,b',hb1,hb0⟩:=hb'
     refine .inr ⟨b0,b',hb1,hb0,fun w' ha=>?_⟩
     obtain⟨c0,c1,c2,q1,q2,q3,q4,q5,q6,q7,q8⟩:=step w' ha
     rw [hb1]at q1
     refine(unm_textMap g ⟨b,2,none⟩ hgb b0 b' rem hb0 (fun w1 sl w2=>TMapD (fun k=>w1.heap.size≤k) w2 ps sl) w' c2 ((blk_cell q3 2).trans rfl) (blk_free q3 2) q1 fun w2 ha2 hc2 hf2 B2=>?_).mono ?_
     ·refine textMap_is g ⟨b,2,none⟩ hgb ps body rem h hmx hbl hH hT hnd w2 c2 hc2 hf2 ?_
      have:b0::(b'++rem)=h++(body++rem):=by rw [←List.append_assoc,←hb,hb1];rfl
      rw [←this]
      exact B2
     ·rintro e w4 ⟨rfl,sl,w2,w3,rfl,ha2,ha3,hq⟩
      have hc2:=ha2.1.blk q3 hgb
      have hc3:=ha3.1.blk hc2 hgb
      have hs2:=k1.size
      have hs3:=q2.size
      have hs4:=ha2.1.size
      have hs5:=ha3.1.size
      refine⟨rfl,c0,c1,sl,ha3.2.set hc3 (by decide) hgb _ _,?_,?_,?_,fun _=>q5 (by omega),?_,fun _=>.inr ?_,fun h=>absurd h (by omega)⟩
      ·exact((q2.trans (ha2.1.mono fun k _ hk=>hk.1)).trans (ha3.1.mono fun k _ hk=>hk.1)).setCell (p:=⟨b,2,none⟩) (.inr (by simp)) _
      ·simpa using blk_set hc3 2 sl
      ·exact blk_far (ha3.1.blk (ha2.1.blk q4 (show w.heap.size≠g by omega)) (show w.heap.size≠g by omega)) (p:=⟨b,2,none⟩) (show w.heap.size≠b by omega) _
      ·rw [q6,if_pos (by omega),if_pos (by omega)]
      ·refine TMapD.keep (ok':=fun k=>k≠b) (hq.mono (ok':=fun k=>w.heap.size≤k) fun k _ hk=>by omega) ((Keep.refl _ w3).setCell (p:=⟨b,2,none⟩) (.inr (by simp)) _) fun k _ hk=>by omega
  ·intro j wr hnj hj3 ⟨c0,c1,c2,q1,q2,q3,q4,q5,q6,q7,q8⟩
   have hj12:j=1∨j=2:=by omega
   rcases hj12 with rfl | rfl
   ·refine .inl ⟨rfl,c0,c1,c2,q1,q2,q3,q4,fun _=>q5 (by omega),?_,fun h=>absurd h (by omega),fun _=>q8 (by omega)⟩
    rw [q6,if_neg (by omega),if_pos (by omega),h1' (by omega)]
   ·refine .inl ⟨rfl,c0,c1,c2,q1,q2,q3,q4,fun _=>q5 (by omega),?_,fun _=>.inl ⟨q8 (by omega),h2' (by omega)⟩,fun h=>absurd h (by omega)⟩
    rw [q6,if_pos (by omega),if_pos (by omega)]
  ·intro w' ha
   have hs2:=k1.size
   exact⟨_,_,_,ha.2,(k1.keep _).trans (ha.1.mono fun k _ hk=>hk.1),ha.1.blk hc1 hgb,ha.1.blk hs (show w.heap.size≠g by omega),fun h=>absurd h (by omega),by rw [if_neg (by omega)],fun h=>absurd h (by omega),fun _=>rfl⟩
 ·rintro e w' ⟨rfl,c0,c1,c2,q1,q2,q3,q4,q5,q6,q7,q8⟩
  rw [q5 (by omega),q6,if_pos (by omega)]at q3
  exact⟨rfl,c2,q3,q2,q1,q7 (by omega)⟩
end Go.Proofs.YtfoegolfadhmjaaGreatDoor
namespace Go.Proofs.YtfoegolfadhmjaaGreatDoor
open Go.RowKit Go.WideShapes
theorem range_nil(w:World)(t k e:TypeId)(ht:Tryz.prog.underlying t=some (.map k e)):(Instr.range t (.map none)).run Tryz.prog w=.ok (.pointer (some ⟨w.heap.size,0,none⟩)) (w.alloc (.mapIter none 0 #[] 0)):=by
 simp [Instr.range,run_underlying ht,newObj]
 rfl
theorem next_nil(w:World)(r:Nat)(hr:w.heap[r]? =some (.mapIter none 0 #[] 0))(ty:TypeId):(Instr.next (.pointer (some ⟨r,0,none⟩)) false ty).run Tryz.prog w=.ok (.tuple #[.bool false]) w:=by
 simp [Instr.next,getObj,Sem.run,hr,choose,Question.forced,Result.andThen]
theorem textPairs_nil(k:Int)(w:World):Calls Tryz.prog 81 #[.int .i64 k,.map none] w fun e w'=>e=.returned (.tuple #[.slice none 0 0,.bool true])∧New w w':=by
 have hrg:=range_nil w 96 9 20 Tryz.underlying96
 go_enter Tryz.func81,Tryz.ntmps81
 go_wp2_with fail
 go_loopg [6] 0 (fun kk s6 wr=>s6=.slice none 0 0∧New w wr∧wr.heap[w.heap.size]? =some (.mapIter none 0 #[] 0))
 case atStart=>exact⟨rfl,(Keep.refl _ _).alloc _,blk_new _ _⟩
 case round=>
  obtain⟨rfl,kr,hit⟩:=hrel
  have hnx:=next_nil wr w.heap.size hit
  go_wp2_with fail
  refine(Tryz.sort_Strings_none none 0 wr).mono ?_
  rintro e w2 ⟨rfl,rfl⟩
  go_wp2_with fail
  go_loopg [8,27] 0 (fun kk s8 s27 wq=>s8=.slice none 0 0∧s27=.int .i64 0∧New w wq)
  case atStart=>exact⟨rfl,rfl,kr⟩
  case round=>
   obtain⟨rfl,rfl,kq⟩:=hrel
   go_wp2
   go_ret2
   exact⟨rfl,kq⟩
def InfoV(w:World)(ps:List (V×V))(s:Value):Prop:=
 (s=.map none∧ps=[])∨∃m es clock,s=.map (some m)∧TMap w m es clock ps∧ps.length≤1000∧∀q∈ps,∃k0 o,q.1=.mk k0 0 q.1.text [] o []∧(k0=19∨k0=20∧(19:Int)=19)
theorem InfoV.pairs{w:World}{ps:List (V×V)}{s:Value}(h:InfoV w ps s):Calls Tryz.prog 81 #[.int .i64 19,s] w fun e w'=>∃s' us qs,e=.returned (.tuple #[s',.bool true])∧New w w'∧ps.Perm qs∧Sims (flat2 qs) us∧us.length=2*ps.length∧Dep (fun b=>w.heap.size≤b) w' (fun w=>LM w us s'):=by
 rcases h with⟨rfl,rfl⟩ | ⟨m,es,clock,rfl,hM,hl,hk⟩
 ·refine(textPairs_nil 19 w).mono ?_
  rintro e w' ⟨rfl,k⟩
  exact⟨_,[],[],rfl,k,List.Perm.refl _,.nil,rfl,fun _ _=>LM.nil⟩
 ·exact textPairs_str 19 (.inl rfl) m es clock ps w hM hl hk
theorem faulted_is(b:Nat)(t0 t1:List UInt8)(ps:List (V×V))(s:Value)(hsh:s=.map none∨∃m,s=.map (some m))(w:World)(hb:w.heap[b]? =some (.cells #[.string ⟨t0.toArray⟩,.string ⟨t1.toArray⟩,s] 98 (0,0)))(hI:InfoV w ps s):
 Calls Tryz.prog 58 #[.pointer (some ⟨b,0,none⟩)] w fun e w'=>∃d s' us qs,e=.returned (.tuple #[.slice (some ⟨d,0,none⟩) 1 1,.bool true])∧New w w'∧w.heap.size≤d∧w'.heap[d]? =some (.cells #[.string ⟨t0.toArray⟩,.string ⟨t1.toArray⟩,s'] 45 (0,0))∧ps.Perm qs∧Sims (flat2 qs) us∧us.length=2*ps.length∧Dep (fun b=>w.heap.size≤b) w' (fun w=>LM w us s'):=by
 have HI:=Lib.hid hI
 have c0:=(blk_cell hb 0).trans rfl
 have c1:=(blk_cell hb 1).trans rfl
 have c2:=(blk_cell hb 2).trans rfl
 clear hI
 obtain⟨s0,hs0⟩:∃s0,s0=s:=⟨_,rfl⟩
 go_enter Tryz.func58,Tryz.ntmps58
 rcases hsh with rfl | ⟨m,rfl⟩
 all_goals
  go_wp2_with fail
  refine HI.out.pairs.mono ?_
  rintro e w1 ⟨s',us,qs,rfl,k1,hp,hs,hl,hd⟩
  obtain⟨A,cc,rfl,_⟩:=hd.here.shape
  have b0:=(blk_cell (k1.blk hb trivial) 0).trans rfl
  have b1:=(blk_cell (k1.blk hb trivial) 1).trans rfl
  have HD:=Lib.hid hd
  have HS:=Lib.hid hs
  have HP:=Lib.hid hp
  have hsz:=k1.size
  have HL:=Lib.hid hl
  clear hd hs hp hl
  go_wp2_with fail
  go_region_held3 (fun w'=>w'.cell? ⟨b,0,none⟩=some (.string ⟨t0.toArray⟩)∧w'.cell? ⟨b,1,none⟩=some (.string ⟨t1.toArray⟩)) (first | go_keep | exact⟨b0,b1⟩) (first | fail)
  all_goals go_wp2
  all_goals go_ret2
  all_goals refine⟨_,_,us,qs,rfl,(k1.drew).alloc _,hsz,blk_new w1 _,HP.out,HS.out,HL.out,?_⟩
  all_goals exact HD.out.keep ((Keep.refl (fun _=>True) w1).alloc _).drew fun _ _ _=>trivial
theorem ofFault_is(b:Nat)(t0 t1:List UInt8)(ps:List (V×V))(s:Value)(hsh:s=.map none∨∃m,s=.map (some m))(w:World)(hb:w.heap[b]? =some (.cells #[.string ⟨t0.toArray⟩,.string ⟨t1.toArray⟩,s] 98 (0,0)))(hI:∀w1,New w w1→InfoV w1 ps s):
 Calls Tryz.prog 42 #[.pointer (some ⟨b,0,none⟩)] w fun e w'=>∃s' us qs,e=.returned (.tuple #[.agg #[.string ⟨t0.toArray⟩,.string ⟨t1.toArray⟩,s'],.bool true])∧New w w'∧ps.Perm qs∧Sims (flat2 qs) us∧us.length=2*ps.length∧Dep (fun b=>w.heap.size≤b) w' (fun w=>LM w us s'):=by
 have kA:=(Keep.refl (fun _=>True) w).alloc (.cells #[.string ⟨#[]⟩,.string ⟨#[]⟩,.slice none 0 0] 45)
 have hcall:=faulted_is b t0 t1 ps s hsh _ (kA.blk hb trivial) (hI _ kA)
 have HC:=Lib.hid hcall
 clear hcall hI
 go_enter Tryz.func42,Tryz.ntmps42
 go_wp2_with fail
 refine HC.out.mono ?_
 rintro e w1 ⟨d,s',us,qs,rfl,k1,hsz,hd,hp,hs,hl,hdep⟩
 obtain⟨A,cc,rfl,_⟩:=hdep.here.shape
 have hv:=k1.blk (blk_new w _) trivial
 have d0:=(blk_cell hd 0).trans rfl
 have d1:=(blk_cell hd 1).trans rfl
 have d2:=(blk_cell hd 2).trans rfl
 have v0:=(blk_cell hv 0).trans rfl
 have v1:=(blk_cell hv 1).trans rfl
 have v2:=(blk_cell hv 2).trans rfl
 have f0:=blk_free hv 0
 have f1:=blk_free hv 1
 have f2:=blk_free hv 2
 have HD:=Lib.hid hdep
 have HS:=Lib.hid hs
 have HP:=Lib.hid hp
 have HL:=Lib.hid hl
 have KK:=kA.trans k1
 clear hdep hs hp hl hd hv
 go_wp2
 refine bodyPost_ret (v:=.tuple #[.agg #[.string ⟨t0.toArray⟩,.string ⟨t1.toArray⟩,.slice A us.length cc],.bool true]) (by simp [results,Tryz.results42,go_sem,v0,v1,v2]) rfl ⟨_,us,qs,rfl,?_,HP.out,HS.out,HL.out,?_⟩
 ·repeat (refine Keep.setCell ?_ (Or.inl (b:=¬True) (Nat.le_refl _)) _)
  exact KK
 ·refine Dep.mono (ok:=fun b=>(w.alloc (.cells #[.string ⟨#[]⟩,.string ⟨#[]⟩,.slice none 0 0] 45)).heap.size≤b) ?_ (fun k _ hk=>by simp only [World.size_alloc]at hk;omega)
  refine Dep.keep (ok':=fun b=>b≠w.heap.size) HD.out ?_ (fun k _ hk=>by simp only [World.size_alloc]at hk;omega)
  repeat (refine Keep.setCell ?_ (Or.inr (by simp)) _)
  exact Keep.refl _ _
end Go.Proofs.YtfoegolfadhmjaaGreatDoor
namespace Go.Proofs.YtfoegolfadhmjaaGreatDoor
open Go.RowKit Go.WideShapes
theorem copied_is(w:World)(v:Value)(l:List UInt8)(hv:SlB w v l)(hl:l.length≤1099511627776):
 Calls Tryz.prog 24 #[v] w fun e w'=>∃v',e=.returned v'∧New w w'∧Dep (fun b=>w.heap.size≤b) w' (fun w=>SlB w v' l)∧(∃A c,v'=.slice A l.length c)∧∀d i c n,v'=.slice (some ⟨d,i,none⟩) n c→i=0:=by
 have hrow:RowB (w.alloc (.cells #[] 5)) w.heap.size (.slice (some ⟨w.heap.size,0,none⟩) 0 0) []:=
  ⟨rfl,.inr ⟨w.heap.size,0,#[],rfl,Nat.le_refl _,blk_new _ _,Nat.le_refl _,Nat.zero_le _,rfl,rfl⟩⟩
 have kA:=(Keep.refl (fun _=>True) w).alloc (.cells #[] 5)
 obtain⟨sk,w2,hr,hrow2,k2,_⟩:=hrow.app (hv.new kA) (by simpa using hl) (by simp)
 have HR:=Lib.hid hr
 obtain⟨A,c,hsh,_⟩:=hv
 subst hsh
 clear hr
 go_enter Tryz.func24,Tryz.ntmps24
 go_wp2_with (at_builtin;refine wpList_append_eq rfl _ _ 27 rfl _ _ _ _ rfl rfl HR.out ?_)
 go_ret
 refine⟨_,rfl,kA.then k2 (fun i hi _=>by simp [Value.ownBlock];omega),hrow2.out,by simpa using hrow2.shape,fun d i c n he=>?_⟩
 rcases hrow2.2 with⟨e,_⟩ | ⟨g,cap,cur,e,_⟩
 ·rw [e]at he;cases he
 ·rw [e]at he;cases he;rfl
theorem newBuf_is(w:World)(v:Value)(l:List UInt8)(hv:SlB w v l)(hne:l≠[])(hl:l.length≤1099511627776)(hA:∀d i c n,v=.slice (some ⟨d,i,none⟩) n c→i=0):
 Calls Tryz.prog 23 #[v] w fun e w'=>e=.returned (.pointer (some ⟨w.heap.size,0,none⟩))∧New w w'∧Buf w' w.heap.size l:=by
 obtain⟨A,c,rfl,h1,h2,h3⟩:=hv
 obtain⟨d,i,rfl,hb⟩:=h3 hne
 obtain rfl:=hA d i c _ rfl
 go_enter Tryz.func23,Tryz.ntmps23
 go_wp2
 go_ret
 have k:=(Keep.refl (fun _=>True) w).alloc (.cells #[.slice (some ⟨d,0,none⟩) l.length c,.int .i64 0] 122)
 obtain⟨cells,hd,hc⟩:=hb
 exact⟨rfl,k,d,l.length,c,0,blk_new _ _,lt_blk hd,⟨cells,k.blk hd trivial,hc⟩,by omega,h1,h2,hl⟩
theorem noValue40_idle(p q r:Addr)(w:World):
 CallsD Tryz.prog 40 #[.pointer (some p),.pointer (some q),.pointer (some r)] .returning w fun e u' w'=>e=.returned (.tuple #[])∧u'=.returning∧w'=w:=by
 refine callsD_of_wpS Tryz.func40 rfl fun c₀ cs hu=>?_
 apply wpS_seq
 apply wpS_region
 simp [wpOpsS,go_sem,recoverD,hu,Tryz.ntmps40,Exit.thenS]
 refine wpS_cond (t:=false) (by simp [Act.eval,Array.replicate]) ?_
 simp only [Bool.false_eq_true,if_false]
 refine wpS_of_wp (wp_skip ?_)
 cases c₀
 simp_all [bodyPostS,results,Tryz.results40]
structure InfoA(ps:List (V×V)):Prop where
 few:ps.length≤500
 able:∀q∈ps,AbleL [q.2]∧NSA [q.2]
 key:∀q∈ps,∃k0 o,q.1=.mk k0 0 q.1.text [] o []∧(k0=19∨k0=20∧(19:Int)=19)
 once:(ps.map fun q=>q.1.text).Nodup
theorem InfoD.made{ok:Nat→Prop}{w:World}{ps:List (V×V)}{s:Value}(h:InfoD ok w ps s)(ha:InfoA ps)(PC:PairsC w):InfoV w ps s:=by
 rcases h with h | ⟨m,es,clock,rfl,hb,hsz,hk,hd⟩
 ·exact .inl h
 ·obtain⟨h1,h2⟩:=hd.here
  refine .inr ⟨m,es,clock,rfl,⟨h1,hb,hsz,hk,fun j hj he=>?_,ha.once⟩,by have:=ha.few;omega,ha.key⟩
  obtain⟨a1,a2⟩:=ha.able _ (List.getElem_mem hj)
  exact valued_of PC (h2 j hj he) a1 a2 0 (by simp) (by simp)
theorem InfoD.shape{ok:Nat→Prop}{w:World}{ps:List (V×V)}{s:Value}(h:InfoD ok w ps s):s=.map none∨∃m,s=.map (some m):=by
 rcases h with⟨rfl,_⟩ | ⟨m,es,clock,rfl,_⟩
 ·exact .inl rfl
 ·exact .inr ⟨m,rfl⟩
theorem readFault_is(n:Nat)(od:Int)(d lb r:List UInt8)(bs:List (List UInt8))(hd:Leaf (.mk 5 29 [] [] od []) d)(Hh:LHd n bs.flatten lb)(hbn:bs.length=n)(hn1:1≤n)(hn3:n≤3)(hlen:n≤bs.flatten.length)
 (t0 t1:List UInt8) (ps:List (V×V)) (h0:∀x,bs[0]? =some x→ReadsT t0 x∧∃b0 b',x=b0::b'∧b0≠64) (h1:∀x,bs[1]? =some x→FieldT t1 x) (h2:∀x,bs[2]? =some x→FieldM ps x) (h1':n<2→t1=[]) (h2':n<3→ps=[])
 (ha:InfoA ps) (w:World) (PC:∀w1,New w w1→PairsC w1) (v:Value) (hv:SlB w v (0::(d++(lb++(bs.flatten++r))))) (hmax:(0::(d++(lb++(bs.flatten++r)))).length≤1099511627776):
 Calls Tryz.prog 15 #[v] w fun e w'=>∃s' us qs rest,e=.returned (.tuple #[.agg #[.string ⟨t0.toArray⟩,.string ⟨t1.toArray⟩,s'],rest,.bool true])∧New w w'∧ps.Perm qs∧Sims (flat2 qs) us∧us.length=2*ps.length∧Dep (fun b=>w.heap.size≤b) w' (fun w=>LM w us s'∧SlB w rest r):=by
 obtain⟨data,hdata⟩:∃data,data=0::(d++(lb++(bs.flatten++r))):=⟨_,rfl⟩
 have hdne:data≠[]:=by rw [hdata];simp
 rw [←hdata]at hv hmax
 have HDATA:=Lib.hid hdata
 have PCH:=Lib.hid PC
 have HA:=Lib.hid ha
 have HV:=Lib.hid hv
 have RD:=Lib.hid (fun (w:World) (g b:Nat) (hgb:b≠g) hc H=>error_is g b 0 n od d lb r bs hgb hd Hh hbn hn1 hn3 hlen t0 t1 ps h0 h1 h2 h1' h2' w hc H)
 obtain⟨A0,c0,hsh,_⟩:=hv
 subst hsh
 clear hd Hh hbn hn1 hn3 hlen h0 h1 h2 h1' h2' PC ha hdata
 have k3:=(((Keep.refl (fun _=>True) w).alloc (.cells #[.string ⟨#[]⟩,.string ⟨#[]⟩,.slice none 0 0] 45)).alloc (.cells #[.slice none 0 0] 27)).alloc (.cells #[.bool false] 4)
 have hcopy:=copied_is _ _ _ (HV.out.new k3) hmax
 go_enter_defers Tryz.func15,Tryz.ntmps15
 go_wp2_with fail
 refine hcopy.mono ?_
 rintro e w4 ⟨v4,rfl,k4,hd4,⟨A4,c4,rfl⟩,hoff⟩
 go_wp2_with fail
 refine(newBuf_is w4 _ data hd4.here hdne hmax hoff).mono ?_
 rintro e w5 ⟨rfl,k5,hB5⟩
 have k6:=(Keep.refl (fun _=>True) w5).alloc (.cells #[.string ⟨#[]⟩,.string ⟨#[]⟩,.map none] 98)
 have hB6:=hB5.new k6
 have e3:=k3.size
 have e4:=k4.size
 have e5:=k5.size
 simp only [World.size_alloc]at e3 e4
 have hglt:=hB5.lt
 have herr:=RD.out _ w4.heap.size w5.heap.size (by omega) (blk_new w5 _) (by rw [←HDATA.out];exact hB6)
 have k06:=((k3.trans k4).trans k5).trans k6
 have r0:=((((k4.trans k5).trans k6)).blk (blk_alloc (blk_alloc (blk_new w (.cells #[.string ⟨#[]⟩,.string ⟨#[]⟩,.slice none 0 0] 45)) (.cells #[.slice none 0 0] 27)) (.cells #[.bool false] 4)) trivial)
 have r1:=((((k4.trans k5).trans k6)).blk (blk_alloc (blk_new (w.alloc (.cells #[.string ⟨#[]⟩,.string ⟨#[]⟩,.slice none 0 0] 45)) (.cells #[.slice none 0 0] 27)) (.cells #[.bool false] 4)) trivial)
 have r2:=((((k4.trans k5).trans k6)).blk (blk_new ((w.alloc (.cells #[.string ⟨#[]⟩,.string ⟨#[]⟩,.slice none 0 0] 45)).alloc (.cells #[.slice none 0 0] 27)) (.cells #[.bool false] 4)) trivial)
 simp only [World.size_alloc]at r1 r2
 go_wp2_with fail
 refine herr.mono ?_
 rintro e w7 ⟨rfl,s,hb7,k7,hB7,hI⟩
 have hsh:=hI.shape
 have r0:=k7.blk r0 (show w.heap.size≠w4.heap.size∧w.heap.size≠w5.heap.size by omega)
 have r1:=k7.blk r1 (show w.heap.size+1≠w4.heap.size∧w.heap.size+1≠w5.heap.size by omega)
 have r2:=k7.blk r2 (show w.heap.size+1+1≠w4.heap.size∧w.heap.size+1+1≠w5.heap.size by omega)
 have k07:New w w7:=k06.then k7 (fun i hi _=>by show i≠_∧i≠_;omega)
 have hof:=ofFault_is w5.heap.size t0 t1 ps s hsh w7 hb7 (fun w1 k1=>(hI.keep k1 (fun _ _ _=>trivial)).made HA.out (PCH.out w1 (k07.trans k1)))
 have e7:=k7.size
 simp only [World.size_alloc]at e7
 clear hI
 go_wp2_with fail
 refine hof.mono ?_
 rintro e w8 ⟨s',us,qs,rfl,k8,hp,hs,hl,hdep⟩
 obtain⟨A,cc,hs',_⟩:=hdep.here.shape
 subst hs'
 have r0:=k8.blk r0 trivial
 have r1:=k8.blk r1 trivial
 have r2:=k8.blk r2 trivial
 have hB8:=hB7.new k8
 have HP:=Lib.hid hp
 have HS:=Lib.hid hs
 have HL:=Lib.hid hl
 have HD:=Lib.hid hdep
 clear hp hs hl hdep hb7
 have a0:=(blk_cell r0 0).trans rfl
 have a1:=(blk_cell r0 1).trans rfl
 have a2:=(blk_cell r0 2).trans rfl
 have b0:=(blk_cell r2 0).trans rfl
 have f0:=blk_free r0 0
 have f1:=blk_free r0 1
 have f2:=blk_free r0 2
 have g0:=blk_free r2 0
 have R0:=blk_far (blk_set (blk_set (blk_set r0 0 (.string ⟨t0.toArray⟩)) 1 (.string ⟨t1.toArray⟩)) 2 (.slice A us.length cc)) (p:=⟨w.heap.size+1+1,0,none⟩) (show w.heap.size≠w.heap.size+1+1 by omega) (.bool true)
 have R1:=blk_far (blk_far (blk_far (blk_far r1 (p:=⟨w.heap.size,0,none⟩) (show w.heap.size+1≠w.heap.size by omega) (.string ⟨t0.toArray⟩)) (p:=⟨w.heap.size,1,none⟩) (show w.heap.size+1≠w.heap.size by omega) (.string ⟨t1.toArray⟩)) (p:=⟨w.heap.size,2,none⟩) (show w.heap.size+1≠w.heap.size by omega) (.slice A us.length cc)) (p:=⟨w.heap.size+1+1,0,none⟩) (show w.heap.size+1≠w.heap.size+1+1 by omega) (.bool true)
 have R2:=blk_set (blk_far (blk_far (blk_far r2 (p:=⟨w.heap.size,0,none⟩) (show w.heap.size+1+1≠w.heap.size by omega) (.string ⟨t0.toArray⟩)) (p:=⟨w.heap.size,1,none⟩) (show w.heap.size+1+1≠w.heap.size by omega) (.string ⟨t1.toArray⟩)) (p:=⟨w.heap.size,2,none⟩) (show w.heap.size+1+1≠w.heap.size by omega) (.slice A us.length cc)) 0 (.bool true)
 have hB9:=(((hB8.set r0 (by decide) (show w.heap.size≠w4.heap.size by omega) 0 (.string ⟨t0.toArray⟩)).set (blk_set r0 0 (.string ⟨t0.toArray⟩)) (by decide) (show w.heap.size≠w4.heap.size by omega) 1 (.string ⟨t1.toArray⟩)).set (blk_set (blk_set r0 0 (.string ⟨t0.toArray⟩)) 1 (.string ⟨t1.toArray⟩)) (by decide) (show w.heap.size≠w4.heap.size by omega) 2 (.slice A us.length cc)).set (blk_far (blk_far (blk_far r2 (p:=⟨w.heap.size,0,none⟩) (show w.heap.size+1+1≠w.heap.size by omega) (.string ⟨t0.toArray⟩)) (p:=⟨w.heap.size,1,none⟩) (show w.heap.size+1+1≠w.heap.size by omega) (.string ⟨t1.toArray⟩)) (p:=⟨w.heap.size,2,none⟩) (show w.heap.size+1+1≠w.heap.size by omega) (.slice A us.length cc)) (by decide) (show w.heap.size+1+1≠w4.heap.size by omega) 0 (.bool true)
 have k8':=k07.trans k8
 have k9:New w ((((w8.setCell ⟨w.heap.size,0,none⟩ (.string ⟨t0.toArray⟩)).setCell ⟨w.heap.size,1,none⟩ (.string ⟨t1.toArray⟩)).setCell ⟨w.heap.size,2,none⟩ (.slice A us.length cc)).setCell ⟨w.heap.size+1+1,0,none⟩ (.bool true)):=by
  repeat (refine Keep.setCell ?_ (Or.inl (b:=¬True) (by simp<;>omega)) _)
  exact k8'
 have kd:Keep (fun b=>b≠w.heap.size∧b≠w.heap.size+1+1) w8 ((((w8.setCell ⟨w.heap.size,0,none⟩ (.string ⟨t0.toArray⟩)).setCell ⟨w.heap.size,1,none⟩ (.string ⟨t1.toArray⟩)).setCell ⟨w.heap.size,2,none⟩ (.slice A us.length cc)).setCell ⟨w.heap.size+1+1,0,none⟩ (.bool true)):=by
  repeat (refine Keep.setCell ?_ (Or.inr (by simp)) _)
  exact Keep.refl _ _
 have hd9:=HD.out.keep kd (fun b _ hb=>by show b≠_∧b≠_;omega)
 simp only [List.setIfInBounds_toArray,List.set_cons_zero,List.set_cons_succ]at R0 R2
 go_wp2_with fail
 obtain⟨w9,hw9⟩:∃w9,w9=(((w8.setCell ⟨w.heap.size,0,none⟩ (.string ⟨t0.toArray⟩)).setCell ⟨w.heap.size,1,none⟩ (.string ⟨t1.toArray⟩)).setCell ⟨w.heap.size,2,none⟩ (.slice A us.length cc)).setCell ⟨w.heap.size+1+1,0,none⟩ (.bool true):=⟨_,rfl⟩
 rw [←hw9]at R0 R1 R2 hB9 k9 hd9 ⊢
 have HD9:=Lib.hid hd9
 clear hw9 kd HD r0 r1 r2 a0 a1 a2 b0 f0 f1 f2 g0 hd9 hB8 k8'
 have q0:=(blk_cell R0 0).trans rfl
 have q1:=(blk_cell R0 1).trans rfl
 have q2:=(blk_cell R0 2).trans rfl
 have q0:w9.cell? ⟨w.heap.size,0,none⟩=some (.string ⟨t0.toArray⟩):=q0
 have q1:w9.cell? ⟨w.heap.size,1,none⟩=some (.string ⟨t1.toArray⟩):=q1
 have q2:w9.cell? ⟨w.heap.size,2,none⟩=some (.slice A us.length cc):=q2
 have hby:=buf_Bytes w4.heap.size r w9.drew (hB9.new ((Keep.refl _ w9).drew))
 have HBY:=Lib.hid hby
 have hrl:r.length≤1099511627776:=by
  have:=hmax
  rw [HDATA.out]at this
  simp only [List.length_cons,List.length_append]at this
  omega
 have HSZ:=Lib.hid (show w4.heap.size<w7.heap.size by omega)
 clear RD PCH HV hcopy hd4 hB5 hB6 hB7 k3 k4 k5 k6 k06 k7 k07 k8 hsh
 refine wp_region_noPanic ?_
 go_region_law
  (first
   | (go_simp;go_at_call 27;refine HBY.out.mono ?_;rintro e w10 ⟨v10,rfl,h10,hv10⟩;have s0:=h10.1.cell (show w9.drew.cell? _=_ from q0) (show w.heap.size≠w4.heap.size by omega);have s1:=h10.1.cell (show w9.drew.cell? _=_ from q1) (show w.heap.size≠w4.heap.size by omega);have s2:=h10.1.cell (show w9.drew.cell? _=_ from q2) (show w.heap.size≠w4.heap.size by omega);have T0:=h10.1.blk (show w9.drew.heap[w.heap.size]? =_ from R0) (show w.heap.size≠w4.heap.size by omega);have T1:=h10.1.blk (show w9.drew.heap[w.heap.size+1]? =_ from R1) (show w.heap.size+1≠w4.heap.size by omega);have T2:=h10.1.blk (show w9.drew.heap[w.heap.size+1+1]? =_ from R2) (show w.heap.size+1+1≠w4.heap.size by omega))
   | (go_simp;go_at_call 24;refine(copied_is _ v10 r hv10 hrl).mono ?_;rintro e w11 ⟨v11,rfl,k11,hd11,⟨A11,c11,rfl⟩,hoff11⟩;have u0:=k11.cell s0 trivial;have u1:=k11.cell s1 trivial;have u2:=k11.cell s2 trivial;have U0:=k11.blk T0 trivial;have U1:=k11.blk T1 trivial;have U2:=k11.blk T2 trivial;have z0:=blk_free U0 0;have z1:=blk_free U0 1;have z2:=blk_free U0 2;have z3:=blk_free U1 0;have z4:=blk_free U2 0;have y3:w11.cell? ⟨w.heap.size+1,0,none⟩=some (.slice none 0 0):=(blk_cell U1 0).trans rfl;have y4:w11.cell? ⟨w.heap.size+1+1,0,none⟩=some (.bool true):=(blk_cell U2 0).trans rfl))
 all_goals refine NoPanic.normal ?_
 all_goals go_wp2
 all_goals refine leaves_cons (f:=40) (args:=#[.pointer (some ⟨w.heap.size,0,none⟩),.pointer (some ⟨w.heap.size+1,0,none⟩),.pointer (some ⟨w.heap.size+1+1,0,none⟩)]) (by simp) (by simp [go_sem]) ?_
 all_goals refine(noValue40_idle _ _ _ _).mono ?_
 all_goals rintro e u' w'' ⟨rfl,rfl,rfl⟩
 all_goals have kk:New w w11:=((k9.drew).then h10.1 (fun i hi _=>by show i≠w4.heap.size;omega)).trans k11
 all_goals have e9:=k9.size
 all_goals have hgl9:w4.heap.size<w9.drew.heap.size:=hB9.lt
 all_goals have e10:=h10.1.size
 all_goals have e78:=HSZ.out
 all_goals have hL11:=((HD9.out.keep ((Keep.refl (fun _=>True) w9).drew) (fun _ _ _=>trivial)).keep h10.1 (fun b _ hb=>by show b≠w4.heap.size;omega)).keep k11 (fun _ _ _=>trivial)
 all_goals refine⟨.tuple #[.agg #[.string ⟨t0.toArray⟩,.string ⟨t1.toArray⟩,.slice A us.length cc],.slice A11 r.length c11,.bool true],by simp [results,Tryz.results15,go_sem,u0,u1,u2,y3,y4],_,us,qs,_,rfl,?_,HP.out,HS.out,HL.out,?_⟩
 all_goals first
  | (repeat (refine Keep.setCell ?_ (Or.inl (b:=¬True) (by simp<;>omega)) _)
     exact kk)
  | (refine Dep.mono (ok:=fun b=>w4.heap.size<b) (Dep.keep (ok':=fun b=>b≠w.heap.size∧b≠w.heap.size+1∧b≠w.heap.size+1+1) ((hL11.mono (ok':=fun b=>w4.heap.size<b) (fun b _ hb=>by omega)).and (hd11.mono (ok':=fun b=>w4.heap.size<b) (fun b _ hb=>by omega))) ?_ (fun b _ hb=>⟨by omega,by omega,by omega⟩)) (fun b _ hb=>by omega)
     repeat (refine Keep.setCell ?_ (Or.inr (by simp)) _)
     exact Keep.refl _ _)
end Go.Proofs.YtfoegolfadhmjaaGreatDoor
namespace Go.Proofs.YtfoegolfadhmjaaGreatDoor
open Go.RowKit Go.WideShapes
def BufW(w:World)(g n:Nat):Prop:=∃(sk:Value) (bs:List UInt8),w.heap[g]? =some (.cells #[sk,.int .i64 0] 122)∧RowB w (g+1) sk bs∧bs.length≤n
theorem BufW.keep{w w':World}{g n:Nat}(h:BufW w g n)(k:Keep (fun b=>g≤b) w w'):BufW w' g n:=by
 obtain⟨sk,bs,h1,h2,h3⟩:=h
 exact⟨sk,bs,k.blk h1 (Nat.le_refl _),h2.keep k (fun b hb=>by omega),h3⟩
theorem BufW.new{w w':World}{g n:Nat}(h:BufW w g n)(k:New w w'):BufW w' g n:=h.keep (k.keep _)
theorem BufW.mono{w:World}{g n m:Nat}(h:BufW w g n)(hm:n≤m):BufW w g m:=by
 obtain⟨sk,bs,h1,h2,h3⟩:=h
 exact⟨sk,bs,h1,h2,by omega⟩
theorem BufW.lt{w:World}{g n:Nat}(h:BufW w g n):g<w.heap.size:=by
 obtain⟨sk,bs,h1,_⟩:=h
 exact lt_blk h1
theorem BufW.set{w:World}{g n:Nat}{sk sk':Value}{bs:List UInt8}(h1:w.heap[g]? =some (.cells #[sk,.int .i64 0] 122))(h2:RowB w (g+1) sk' bs)(h3:bs.length≤n):BufW (w.setCell ⟨g,0,none⟩ sk') g n:=
 ⟨sk',bs,by simpa using blk_set h1 0 sk',h2.keep ((Keep.refl (fun k=>k≠g) w).setCell (.inr (by simp)) sk') (fun b hb=>by omega),h3⟩
theorem bytes_at(w:World)(l:List UInt8)(cs:Array Value)(hc:cs=(l.map fun x=>Value.int .u8 (x.toNat:Int)).toArray)(hl:l.length≤100):SlB (w.alloc (.cells cs 5)) (.slice (some ⟨w.heap.size,0,none⟩) l.length l.length) l:=
 ⟨_,l.length,rfl,Nat.le_refl _,by omega,fun _=>⟨w.heap.size,0,rfl,_,blk_new _ _,fun j hj=>by
   subst hc
   rw [Nat.zero_add]
   simp [hj]⟩⟩
theorem byte_nat{n:Nat}(h:n<256):(((UInt8.ofNat n).toNat:Nat):Int)=(n:Int):=by
 have:(UInt8.ofNat n).toNat=n:=by
  rw [UInt8.toNat_ofNat']
  exact Nat.mod_eq_of_lt h
 rw [this]
theorem byte_in{x:Int}(h:0≤x∧x<256):(((UInt8.ofNat x.toNat).toNat:Nat):Int)=x:=by
 rw [byte_nat (by omega)]
 omega
theorem byte_int{x:Int}:(((UInt8.ofNat (IntKind.u8.wrap x).toNat).toNat:Nat):Int)=IntKind.u8.wrap x:=by
 have h:=IntKind.wrap_u8 x
 rw [byte_nat (by omega)]
 omega
theorem BufW.app{w:World}{g n:Nat}(h:BufW w g n)(w1:World)(k:New w w1){v:Value}{l:List UInt8}(hv:SlB w1 v l)(hn:n+l.length≤1099511627776):
 ∃sk sk' w',(∃A n c,sk'=.slice A n c)∧w1.heap[g]? =some (.cells #[sk,.int .i64 0] 122)∧w1.frozen? ⟨g,0,none⟩=false∧w1.cell? ⟨g,0,none⟩=some sk∧(Builtin.append_ #[27,27] 27 #[sk,v]).run Tryz.prog w1=.ok sk' w'∧w'.cell? ⟨g,0,none⟩=some sk∧w'.frozen? ⟨g,0,none⟩=false∧BufW (w'.setCell ⟨g,0,none⟩ sk') g (n+l.length)∧Keep (fun b=>b<g) w (w'.setCell ⟨g,0,none⟩ sk')∧Keep (fun b=>b<g∨w.heap.size≤b) w1 (w'.setCell ⟨g,0,none⟩ sk'):=by
 obtain⟨sk,bs,h0,h2,h3⟩:=h
 have hlow:∀b,sk.ownBlock=some b→b<w.heap.size:=fun b hb=>h2.lt hb
 have hg0:=lt_blk h0
 have h1:=k.blk h0 trivial
 replace h2:=h2.keep k (fun _ _=>trivial)
 have hlt:=lt_blk h1
 obtain⟨sk',w',hr,hrow,kp,_⟩:=h2.app hv (by omega) (by omega)
 have hne:some g≠sk.ownBlock:=h2.far g (by omega)
 have hb:=kp.blk h1 hne
 refine⟨sk,sk',w',(let ⟨A,c,e⟩:=hrow.shape;⟨A,_,c,e⟩),h1,blk_free h1 0,(blk_cell h1 0).trans rfl,hr,(blk_cell hb 0).trans rfl,blk_free hb 0,BufW.set hb hrow (by simp;omega),?_,?_⟩
 ·refine Keep.setCell ?_ (.inr (by simp)) _
  exact(k.keep _).then kp (fun i hi hg=>h2.far i (by omega))
 ·refine Keep.setCell ?_ (.inr (by simp;omega)) _
  exact(Keep.refl _ w1).then kp (fun i hi hg=>by
   rcases hg with hg | hg
   ·exact h2.far i (by omega)
   ·intro e
    have:=hlow i e.symm
    omega)
theorem BufW.appStr{w:World}{g n:Nat}(h:BufW w g n)(t:List UInt8)(hn:n+t.length≤1099511627776):
 ∃sk sk' w',(∃A n c,sk'=.slice A n c)∧w.heap[g]? =some (.cells #[sk,.int .i64 0] 122)∧w.frozen? ⟨g,0,none⟩=false∧w.cell? ⟨g,0,none⟩=some sk∧(Builtin.append_ #[27,9] 27 #[sk,.string ⟨t.toArray⟩]).run Tryz.prog w=.ok sk' w'∧w'.cell? ⟨g,0,none⟩=some sk∧w'.frozen? ⟨g,0,none⟩=false∧BufW (w'.setCell ⟨g,0,none⟩ sk') g (n+t.length)∧Keep (fun b=>b<g) w (w'.setCell ⟨g,0,none⟩ sk'):=by
 obtain⟨i0,hi,hz,hs,hbb⟩:=info_parts info5
 obtain⟨sk,bs,h1,h2,h3⟩:=h
 have hlt:=lt_blk h1
 have hsz:(⟨t.toArray⟩:ByteArray).size=t.length:=rfl
 obtain⟨sk',w',hr,hrow,hg,_⟩:=Lib.run_append_own_string (P:=Tryz.prog) (w:=w) (g+1) 27 9 27 5 i0 Tryz.underlying27 Tryz.underlying9 hi hz hs hbb sk bs.length _ h2 ⟨t.toArray⟩ (by rw [hsz];unfold maxLen;omega) (by rw [hsz];omega) (by omega)
 have kp:Keep (fun k=>some k≠sk.ownBlock) w w':=Keep.of_grown hg (fun k hk=>hk)
 have hne:some g≠sk.ownBlock:=RowB.far h2 g (by omega)
 have hb:=kp.blk h1 hne
 have hrow':RowB w' (g+1) sk' (bs++t):=by
  unfold RowB
  rw [List.length_append,List.map_append]
  have e:Lib.strCells ⟨t.toArray⟩=t.map fun x=>Value.int .u8 (x.toNat:Int):=by simp [Lib.strCells]
  rw [e,hsz]at hrow
  exact hrow
 refine⟨sk,sk',w',(let ⟨A,c,e⟩:=hrow'.shape;⟨A,_,c,e⟩),h1,blk_free h1 0,(blk_cell h1 0).trans rfl,hr,(blk_cell hb 0).trans rfl,blk_free hb 0,BufW.set hb hrow' (by simp;omega),?_⟩
 refine Keep.setCell ?_ (.inr (by simp)) _
 exact(Keep.refl _ w).then kp (fun i hi hg=>RowB.far h2 i (by omega))
theorem wpList_append_eq2{P:Program}{w:World}{ops:Array Oper}{rest:List Oper}{o:Oper}{a:Act}{Q:Exit→Act→World→Prop}(hgd:o.guard=none)(s x:Operand)(t t':TypeId)
 (ho:o.op=.call { callee:=.builtin .append,args:=#[s,x],argTypes:=#[t,t'] }) (v u r:Value) (w':World) (hs:a.eval s=v) (hx:a.eval x=u)
 (hr:(Builtin.append_ #[t,t'] o.type #[v,u]).run P w=.ok r w') (h:wpList P ops Q rest (a.put o.dst r) w'):wpList P ops Q (o::rest) a w:=
 wpList_plain hgd fun K hK=>by
  unfold Oper.wp execOp
  simp only [ho,resolve,invoke,builtin,Sem.run_bind,Sem.run_pure,Result.andThen_ok,List.map_toArray,List.map_cons,List.map_nil,hs,hx,hr]
  exact hK _ _ h
theorem appendByte_k(w0 w:World)(g n:Nat)(h:BufW w0 g n)(k0:New w0 w)(x:Nat)(hx:x<256)(hn:n≤1099511620000):
 Calls Tryz.prog 257 #[.pointer (some ⟨g,0,none⟩),.int .u8 (x:Int)] w fun e w'=>e=.returned (.tuple #[])∧BufW w' g (n+1)∧Keep (fun b=>b<g∨w0.heap.size≤b) w w':=by
 have kA:=(Keep.refl (fun _=>True) w).alloc (.cells #[.int .u8 (x:Int)] 5)
 have hs:=bytes_at w [UInt8.ofNat x] #[.int .u8 (x:Int)] (by simp [-UInt8.toNat_ofNat',byte_nat hx]) (by simp)
 obtain⟨sk,_,w',⟨A',n',c',rfl⟩,h1,f1,c1,hr,c2,f2,hB,hK,hK2⟩:=h.app _ (k0.trans kA) hs (by simp;omega)
 have c0:w.cell? ⟨g,0,none⟩=some sk:=by
  have:=h.lt
  obtain⟨s,b,hh,_⟩:=h.new k0
  have e:=kA.blk hh trivial
  rw [h1]at e
  injection e with e
  injection e with e
  have e:s=sk:=by simp at e;exact e.symm
  subst e
  exact(blk_cell hh 0).trans rfl
 have HR:=Lib.hid hr
 have KK:Keep (fun b=>b<g∨w0.heap.size≤b) w (w'.setCell ⟨g,0,none⟩ (.slice A' n' c')):=(New.keep kA _).trans hK2
 clear hr kA hK hK2
 go_enter Tryz.func257,Tryz.ntmps257
 go_wp2_with (at_builtin;refine wpList_append_eq rfl _ _ 27 rfl _ _ _ _ rfl rfl HR.out ?_)
 refine bodyPost_end (v:=.tuple #[]) (by simp [results,Tryz.results257]) rfl ⟨rfl,hB,KK⟩
theorem appendByte_is(w:World)(g n:Nat)(h:BufW w g n)(x:Nat)(hx:x<256)(hn:n≤1099511620000):
 Calls Tryz.prog 257 #[.pointer (some ⟨g,0,none⟩),.int .u8 (x:Int)] w fun e w'=>e=.returned (.tuple #[])∧BufW w' g (n+1)∧Keep (fun b=>b<g) w w':=
 (appendByte_k w w g n h (Keep.refl _ _) x hx hn).mono fun _ _ hh=>⟨hh.1,hh.2.1,hh.2.2.mono fun _ _ hb=>.inl hb⟩
theorem append_is(w:World)(g n:Nat)(h:BufW w g n)(v:Value)(l:List UInt8)(hv:SlB w v l)(hn:n+l.length≤1099511627776):
 Calls Tryz.prog 261 #[.pointer (some ⟨g,0,none⟩),v] w fun e w'=>e=.returned (.tuple #[])∧BufW w' g (n+l.length)∧Keep (fun b=>b<g) w w':=by
 obtain⟨sk,_,w',⟨A',n',c',rfl⟩,h1,f1,c1,hr,c2,f2,hB,hK,hK2⟩:=h.app _ (Keep.refl _ _) hv hn
 have HR:=Lib.hid hr
 obtain⟨A,c,hsh,_⟩:=hv
 subst hsh
 clear hr
 go_enter Tryz.func261,Tryz.ntmps261
 go_wp2_with (at_builtin;refine wpList_append_eq rfl _ _ 27 rfl _ _ _ _ rfl rfl HR.out ?_)
 refine bodyPost_end (v:=.tuple #[]) (by simp [results,Tryz.results261]) rfl ⟨rfl,hB,hK⟩
theorem appendString_is(w:World)(g n:Nat)(h:BufW w g n)(t:List UInt8)(hn:n+t.length≤1099511627776):
 Calls Tryz.prog 307 #[.pointer (some ⟨g,0,none⟩),.string ⟨t.toArray⟩] w fun e w'=>e=.returned (.tuple #[])∧BufW w' g (n+t.length)∧Keep (fun b=>b<g) w w':=by
 obtain⟨sk,_,w',⟨A',n',c',rfl⟩,h1,f1,c1,hr,c2,f2,hB,hK⟩:=h.appStr t hn
 have HR:=Lib.hid hr
 clear hr
 go_enter Tryz.func307,Tryz.ntmps307
 go_wp2_with (at_builtin;refine wpList_append_eq2 rfl _ _ 27 9 rfl _ _ _ _ rfl rfl HR.out ?_)
 refine bodyPost_end (v:=.tuple #[]) (by simp [results,Tryz.results307]) rfl ⟨rfl,hB,hK⟩
theorem appendU16(w:World)(g n:Nat)(h:BufW w g n)(x:Int)(hx:0≤x∧x<65536)(hn:n≤1099511620000):
 Calls Tryz.prog 260 #[.pointer (some ⟨g,0,none⟩),.int .u16 x] w fun e w'=>e=.returned (.tuple #[])∧BufW w' g (n+2)∧Keep (fun b=>b<g) w w':=by
 have kA:=(Keep.refl (fun _=>True) w).alloc (.cells #[.int .u8 (x/256),.int .u8 (x % 256)] 5)
 have hs:=bytes_at w [UInt8.ofNat (x/256).toNat,UInt8.ofNat (x % 256).toNat] #[.int .u8 (x/256),.int .u8 (x % 256)] (by simp only [List.map_cons,List.map_nil,byte_in (show 0≤x/256∧x/256<256 by omega),byte_in (show 0≤x % 256∧x % 256<256 by omega)]) (by simp)
 obtain⟨sk,_,w',⟨A',n',c',rfl⟩,h1,f1,c1,hr,c2,f2,hB,hK,hK2⟩:=h.app _ kA hs (by simp;omega)
 have c0:w.cell? ⟨g,0,none⟩=some sk:=by
  have:=h.lt
  obtain⟨s,b,hh,_⟩:=h
  have e:=kA.blk hh trivial
  rw [h1]at e
  injection e with e
  injection e with e
  have e:s=sk:=by simp at e;exact e.symm
  subst e
  exact(blk_cell hh 0).trans rfl
 have HR:=Lib.hid hr
 clear hr kA hs c1 f1 h1 h
 go_enter Tryz.func260,Tryz.ntmps260
 go_wp2_with (at_builtin;refine wpList_append_eq rfl _ _ 27 rfl _ _ _ _ rfl rfl HR.out ?_)
 refine bodyPost_end (v:=.tuple #[]) (by simp [results,Tryz.results260]) rfl ⟨rfl,hB,hK⟩
theorem appendU32(w:World)(g n:Nat)(h:BufW w g n)(x:Int)(hx:0≤x∧x<4294967296)(hn:n≤1099511620000):
 Calls Tryz.prog 306 #[.pointer (some ⟨g,0,none⟩),.int .u32 x] w fun e w'=>e=.returned (.tuple #[])∧BufW w' g (n+4)∧Keep (fun b=>b<g) w w':=by
 have kA:=(Keep.refl (fun _=>True) w).alloc (.cells #[.int .u8 (x/16777216),.int .u8 (x/65536 % 256),.int .u8 (x/256 % 256),.int .u8 (x % 256)] 5)
 have hs:=bytes_at w [UInt8.ofNat (x/16777216).toNat,UInt8.ofNat (x/65536 % 256).toNat,UInt8.ofNat (x/256 % 256).toNat,UInt8.ofNat (x % 256).toNat] #[.int .u8 (x/16777216),.int .u8 (x/65536 % 256),.int .u8 (x/256 % 256),.int .u8 (x % 256)] (by simp only [List.map_cons,List.map_nil,byte_in (show 0≤x/16777216∧x/16777216<256 by omega),byte_in (show 0≤x/65536 % 256∧x/65536 % 256<256 by omega),byte_in (show 0≤x/256 % 256∧x/256 % 256<256 by omega),byte_in (show 0≤x % 256∧x % 256<256 by omega)]) (by simp)
 obtain⟨sk,_,w',⟨A',n',c',rfl⟩,h1,f1,c1,hr,c2,f2,hB,hK,hK2⟩:=h.app _ kA hs (by simp;omega)
 have c0:w.cell? ⟨g,0,none⟩=some sk:=by
  have:=h.lt
  obtain⟨s,b,hh,_⟩:=h
  have e:=kA.blk hh trivial
  rw [h1]at e
  injection e with e
  injection e with e
  have e:s=sk:=by simp at e;exact e.symm
  subst e
  exact(blk_cell hh 0).trans rfl
 have HR:=Lib.hid hr
 clear hr kA hs c1 f1 h1 h
 go_enter Tryz.func306,Tryz.ntmps306
 go_wp2_with (at_builtin;refine wpList_append_eq rfl _ _ 27 rfl _ _ _ _ rfl rfl HR.out ?_)
 refine bodyPost_end (v:=.tuple #[]) (by simp [results,Tryz.results306]) rfl ⟨rfl,hB,hK⟩
theorem appendU64(w:World)(g n:Nat)(h:BufW w g n)(x:Int)(hx:0≤x∧x<18446744073709551616)(hn:n≤1099511620000):
 Calls Tryz.prog 305 #[.pointer (some ⟨g,0,none⟩),.int .u64 x] w fun e w'=>e=.returned (.tuple #[])∧BufW w' g (n+8)∧Keep (fun b=>b<g) w w':=by
 have kA:=(Keep.refl (fun _=>True) w).alloc (.cells #[.int .u8 (x/72057594037927936),.int .u8 (x/281474976710656 % 256),.int .u8 (x/1099511627776 % 256),.int .u8 (x/4294967296 % 256),.int .u8 (x/16777216 % 256),.int .u8 (x/65536 % 256),.int .u8 (x/256 % 256),.int .u8 (x % 256)] 5)
 have hs:=bytes_at w [UInt8.ofNat (x/72057594037927936).toNat,UInt8.ofNat (x/281474976710656 % 256).toNat,UInt8.ofNat (x/1099511627776 % 256).toNat,UInt8.ofNat (x/4294967296 % 256).toNat,UInt8.ofNat (x/16777216 % 256).toNat,UInt8.ofNat (x/65536 % 256).toNat,UInt8.ofNat (x/256 % 256).toNat,UInt8.ofNat (x % 256).toNat] #[.int .u8 (x/72057594037927936),.int .u8 (x/281474976710656 % 256),.int .u8 (x/1099511627776 % 256),.int .u8 (x/4294967296 % 256),.int .u8 (x/16777216 % 256),.int .u8 (x/65536 % 256),.int .u8 (x/256 % 256),.int .u8 (x % 256)] (by simp only [List.map_cons,List.map_nil,byte_in (show 0≤x/72057594037927936∧x/72057594037927936<256 by omega),byte_in (show 0≤x/281474976710656 % 256∧x/281474976710656 % 256<256 by omega),byte_in (show 0≤x/1099511627776 % 256∧x/1099511627776 % 256<256 by omega),byte_in (show 0≤x/4294967296 % 256∧x/4294967296 % 256<256 by omega),byte_in (show 0≤x/16777216 % 256∧x/16777216 % 256<256 by omega),byte_in (show 0≤x/65536 % 256∧x/65536 % 256<256 by omega),byte_in (show 0≤x/256 % 256∧x/256 % 256<256 by omega),byte_in (show 0≤x % 256∧x % 256<256 by omega)]) (by simp)
 obtain⟨sk,_,w',⟨A',n',c',rfl⟩,h1,f1,c1,hr,c2,f2,hB,hK,hK2⟩:=h.app _ kA hs (by simp;omega)
 have c0:w.cell? ⟨g,0,none⟩=some sk:=by
  have:=h.lt
  obtain⟨s,b,hh,_⟩:=h
  have e:=kA.blk hh trivial
  rw [h1]at e
  injection e with e
  injection e with e
  have e:s=sk:=by simp at e;exact e.symm
  subst e
  exact(blk_cell hh 0).trans rfl
 have HR:=Lib.hid hr
 clear hr kA hs c1 f1 h1 h
 go_enter Tryz.func305,Tryz.ntmps305
 go_wp2_with (at_builtin;refine wpList_append_eq rfl _ _ 27 rfl _ _ _ _ rfl rfl HR.out ?_)
 refine bodyPost_end (v:=.tuple #[]) (by simp [results,Tryz.results305]) rfl ⟨rfl,hB,hK⟩
end Go.Proofs.YtfoegolfadhmjaaGreatDoor
namespace Go.Proofs.YtfoegolfadhmjaaGreatDoor
open Go.RowKit Go.WideShapes
theorem writeU64(w:World)(g n:Nat)(h:BufW w g n)(x:Nat)(hx:x<18446744073709551616)(hn:n≤1099511610000):
 Calls Tryz.prog 258 #[.pointer (some ⟨g,0,none⟩),.int .u64 (x:Int)] w fun e w'=>e=.returned (.tuple #[])∧BufW w' g (n+9)∧Keep (fun b=>b<g) w w':=by
 by_cases h0:x=0
 ·subst h0
  go_enter Tryz.func258,Tryz.ntmps258
  go_wp2_with fail
  refine(appendByte_is _ g n h 68 (by decide) (by omega)).mono ?_
  rintro e w1 ⟨rfl,h1,k1⟩
  go_wp2
  refine bodyPost_ret (v:=.tuple #[]) (by simp [results,Tryz.results258]) rfl ⟨rfl,h1.mono (by omega),k1⟩
 ·by_cases h1:x<256
  ·have t0:((x:Int)==0)=false:=by simp;omega
   have t1:decide ((x:Int)<256)=true:=by simp;omega
   have hw:=byte_nat h1
   have hs:=bytes_at w [83,UInt8.ofNat x] #[.int .u8 83,.int .u8 (x:Int)] (by simp only [List.map_cons,List.map_nil,hw];rfl) (by simp)
   have hb:=h.new ((Keep.refl (fun _=>True) w).alloc (.cells #[.int .u8 83,.int .u8 (x:Int)] 5))
   clear hw
   go_enter Tryz.func258,Tryz.ntmps258
   go_wp2_with fail
   refine(append_is _ g n hb _ _ hs (by simp;omega)).mono ?_
   rintro e w1 ⟨rfl,h1,k1⟩
   go_wp2
   refine bodyPost_ret (v:=.tuple #[]) (by simp [results,Tryz.results258]) rfl ⟨rfl,h1.mono (by simp),((Keep.refl _ w).alloc _).trans k1⟩
  ·have t0:((x:Int)==0)=false:=by simp;omega
   have t1:decide ((x:Int)<256)=false:=by simp;omega
   go_enter Tryz.func258,Tryz.ntmps258
   go_wp2_with fail
   refine(appendByte_is _ g n h 128 (by decide) (by omega)).mono ?_
   rintro e w1 ⟨rfl,h1,k1⟩
   go_wp2_with fail
   refine(appendU64 _ g _ h1 _ (by first | omega | (have:=IntKind.wrap_u64 x;omega) | (have:=IntKind.wrap_u32 x;omega)) (by omega)).mono ?_
   rintro e w2 ⟨rfl,h2,k2⟩
   go_wp2
   refine bodyPost_end (v:=.tuple #[]) (by simp [results,Tryz.results258]) rfl ⟨rfl,h2.mono (by omega),k1.trans k2⟩
theorem writeU32(w:World)(g n:Nat)(h:BufW w g n)(x:Nat)(hx:x<4294967296)(hn:n≤1099511610000):
 Calls Tryz.prog 259 #[.pointer (some ⟨g,0,none⟩),.int .u32 (x:Int)] w fun e w'=>e=.returned (.tuple #[])∧BufW w' g (n+9)∧Keep (fun b=>b<g) w w':=by
 by_cases h0:x=0
 ·subst h0
  go_enter Tryz.func259,Tryz.ntmps259
  go_wp2_with fail
  refine(appendByte_is _ g n h 67 (by decide) (by omega)).mono ?_
  rintro e w1 ⟨rfl,h1,k1⟩
  go_wp2
  refine bodyPost_ret (v:=.tuple #[]) (by simp [results,Tryz.results259]) rfl ⟨rfl,h1.mono (by omega),k1⟩
 ·by_cases h1:x<256
  ·have t0:((x:Int)==0)=false:=by simp;omega
   have t1:decide ((x:Int)<256)=true:=by simp;omega
   have hw:=byte_nat h1
   have hs:=bytes_at w [82,UInt8.ofNat x] #[.int .u8 82,.int .u8 (x:Int)] (by simp only [List.map_cons,List.map_nil,hw];rfl) (by simp)
   have hb:=h.new ((Keep.refl (fun _=>True) w).alloc (.cells #[.int .u8 82,.int .u8 (x:Int)] 5))
   clear hw
   go_enter Tryz.func259,Tryz.ntmps259
   go_wp2_with fail
   refine(append_is _ g n hb _ _ hs (by simp;omega)).mono ?_
   rintro e w1 ⟨rfl,h1,k1⟩
   go_wp2
   refine bodyPost_ret (v:=.tuple #[]) (by simp [results,Tryz.results259]) rfl ⟨rfl,h1.mono (by simp),((Keep.refl _ w).alloc _).trans k1⟩
  ·have t0:((x:Int)==0)=false:=by simp;omega
   have t1:decide ((x:Int)<256)=false:=by simp;omega
   go_enter Tryz.func259,Tryz.ntmps259
   go_wp2_with fail
   refine(appendByte_is _ g n h 112 (by decide) (by omega)).mono ?_
   rintro e w1 ⟨rfl,h1,k1⟩
   go_wp2_with fail
   refine(appendU32 _ g _ h1 _ (by first | omega | (have:=IntKind.wrap_u64 x;omega) | (have:=IntKind.wrap_u32 x;omega)) (by omega)).mono ?_
   rintro e w2 ⟨rfl,h2,k2⟩
   go_wp2
   refine bodyPost_end (v:=.tuple #[]) (by simp [results,Tryz.results259]) rfl ⟨rfl,h2.mono (by omega),k1.trans k2⟩
theorem writeI64(w:World)(g n:Nat)(h:BufW w g n)(x:Int)(hx:-9223372036854775808≤x∧x<9223372036854775808)(hn:n≤1099511610000):
 Calls Tryz.prog 262 #[.pointer (some ⟨g,0,none⟩),.int .i64 x] w fun e w'=>e=.returned (.tuple #[])∧BufW w' g (n+9)∧Keep (fun b=>b<g) w w':=by
 by_cases h0:x<128∧-128≤x
 ·have t1:decide (x<128)=true:=by simp;omega
  have t2:decide (-128≤x)=true:=by simp;omega
  have hs:=bytes_at w [85,UInt8.ofNat (IntKind.u8.wrap x).toNat] #[.int .u8 85,.int .u8 (IntKind.u8.wrap x)] (by simp only [List.map_cons,List.map_nil,byte_int];rfl) (by simp)
  have hb:=h.new ((Keep.refl (fun _=>True) w).alloc (.cells #[.int .u8 85,.int .u8 (IntKind.u8.wrap x)] 5))
  rw [show IntKind.u8.wrap x=x % 256 from IntKind.wrap_u8 x]at hs hb
  go_enter Tryz.func262,Tryz.ntmps262
  go_wp2_with fail
  refine(append_is _ g n hb _ _ hs (by simp;omega)).mono ?_
  rintro e w1 ⟨rfl,h1,k1⟩
  go_wp2
  refine bodyPost_ret (v:=.tuple #[]) (by simp [results,Tryz.results262]) rfl ⟨rfl,h1.mono (by simp),((Keep.refl _ w).alloc _).trans k1⟩
 ·by_cases h1:x<128
  all_goals
   have t2:x<128→decide (-128≤x)=false:=by simp;omega
  ·have t1:decide (x<128)=true:=by simp;omega
   have t3:=t2 h1
   go_enter Tryz.func262,Tryz.ntmps262
   go_wp2_with fail
   refine(appendByte_is _ g n h 129 (by decide) (by omega)).mono ?_
   rintro e w1 ⟨rfl,h1,k1⟩
   go_wp2_with fail
   refine(appendU64 _ g _ h1 _ (by first | omega | (have:=IntKind.wrap_u64 x;omega) | (have:=IntKind.wrap_u32 x;omega)) (by omega)).mono ?_
   rintro e w2 ⟨rfl,h2,k2⟩
   go_wp2
   refine bodyPost_end (v:=.tuple #[]) (by simp [results,Tryz.results262]) rfl ⟨rfl,h2.mono (by omega),k1.trans k2⟩
  ·have t1:decide (x<128)=false:=by simp;omega
   go_enter Tryz.func262,Tryz.ntmps262
   go_wp2_with fail
   refine(appendByte_is _ g n h 129 (by decide) (by omega)).mono ?_
   rintro e w1 ⟨rfl,h1,k1⟩
   go_wp2_with fail
   refine(appendU64 _ g _ h1 _ (by first | omega | (have:=IntKind.wrap_u64 x;omega) | (have:=IntKind.wrap_u32 x;omega)) (by omega)).mono ?_
   rintro e w2 ⟨rfl,h2,k2⟩
   go_wp2
   refine bodyPost_end (v:=.tuple #[]) (by simp [results,Tryz.results262]) rfl ⟨rfl,h2.mono (by omega),k1.trans k2⟩
theorem writeI32(w:World)(g n:Nat)(h:BufW w g n)(x:Int)(hx:-2147483648≤x∧x<2147483648)(hn:n≤1099511610000):
 Calls Tryz.prog 263 #[.pointer (some ⟨g,0,none⟩),.int .i32 x] w fun e w'=>e=.returned (.tuple #[])∧BufW w' g (n+9)∧Keep (fun b=>b<g) w w':=by
 by_cases h0:x<128∧-128≤x
 ·have t1:decide (x<128)=true:=by simp;omega
  have t2:decide (-128≤x)=true:=by simp;omega
  have hs:=bytes_at w [84,UInt8.ofNat (IntKind.u8.wrap x).toNat] #[.int .u8 84,.int .u8 (IntKind.u8.wrap x)] (by simp only [List.map_cons,List.map_nil,byte_int];rfl) (by simp)
  have hb:=h.new ((Keep.refl (fun _=>True) w).alloc (.cells #[.int .u8 84,.int .u8 (IntKind.u8.wrap x)] 5))
  rw [show IntKind.u8.wrap x=x % 256 from IntKind.wrap_u8 x]at hs hb
  go_enter Tryz.func263,Tryz.ntmps263
  go_wp2_with fail
  refine(append_is _ g n hb _ _ hs (by simp;omega)).mono ?_
  rintro e w1 ⟨rfl,h1,k1⟩
  go_wp2
  refine bodyPost_ret (v:=.tuple #[]) (by simp [results,Tryz.results263]) rfl ⟨rfl,h1.mono (by simp),((Keep.refl _ w).alloc _).trans k1⟩
 ·by_cases h1:x<128
  all_goals
   have t2:x<128→decide (-128≤x)=false:=by simp;omega
  ·have t1:decide (x<128)=true:=by simp;omega
   have t3:=t2 h1
   go_enter Tryz.func263,Tryz.ntmps263
   go_wp2_with fail
   refine(appendByte_is _ g n h 113 (by decide) (by omega)).mono ?_
   rintro e w1 ⟨rfl,h1,k1⟩
   go_wp2_with fail
   refine(appendU32 _ g _ h1 _ (by first | omega | (have:=IntKind.wrap_u64 x;omega) | (have:=IntKind.wrap_u32 x;omega)) (by omega)).mono ?_
   rintro e w2 ⟨rfl,h2,k2⟩
   go_wp2
   refine bodyPost_end (v:=.tuple #[]) (by simp [results,Tryz.results263]) rfl ⟨rfl,h2.mono (by omega),k1.trans k2⟩
  ·have t1:decide (x<128)=false:=by simp;omega
   go_enter Tryz.func263,Tryz.ntmps263
   go_wp2_with fail
   refine(appendByte_is _ g n h 113 (by decide) (by omega)).mono ?_
   rintro e w1 ⟨rfl,h1,k1⟩
   go_wp2_with fail
   refine(appendU32 _ g _ h1 _ (by first | omega | (have:=IntKind.wrap_u64 x;omega) | (have:=IntKind.wrap_u32 x;omega)) (by omega)).mono ?_
   rintro e w2 ⟨rfl,h2,k2⟩
   go_wp2
   refine bodyPost_end (v:=.tuple #[]) (by simp [results,Tryz.results263]) rfl ⟨rfl,h2.mono (by omega),k1.trans k2⟩
end Go.Proofs.YtfoegolfadhmjaaGreatDoor
namespace Go.Proofs.YtfoegolfadhmjaaGreatDoor
open Go.RowKit Go.WideShapes
def Vld(w:World):Prop:=∀w1,Keep (fun b=>b<w.heap.size) w w1→∀t:List UInt8,t.length≤1099511627776→Calls Tryz.prog 139 #[.string ⟨t.toArray⟩] w1 fun e w'=>e=.returned (.bool (Lib.validD t))∧New w1 w'
theorem Keep.low{w w1:World}{B:Nat}(k:Keep (fun b=>b<B) w w1){w0:World}(k0:New w0 w)(hB:w0.heap.size≤B):New w0 w1:=
 k0.then k (fun i hi _=>by omega)
theorem Vld.new{w w1:World}(h:Vld w)(k:New w w1):Vld w1:=fun w2 k2=>h w2 (Keep.keep1 k k2) where
 Keep.keep1 {w w1 w2:World} (k:New w w1) (k2:Keep (fun b=>b<w1.heap.size) w1 w2):Keep (fun b=>b<w.heap.size) w w2:=
  (k.keep _).then k2 (fun i hi _=>by have:=k.size;omega)
theorem writeString_is(w:World)(VC:Vld w)(g n:Nat)(h:BufW w g n)(t:List UInt8)(ht:Lib.validD t=true)(hl:t.length<4294967295)(hn:n≤1099511600):
 Calls Tryz.prog 266 #[.pointer (some ⟨g,0,none⟩),.string ⟨t.toArray⟩] w fun e w'=>e=.returned .nilIface∧BufW w' g (n+(t.length+5))∧Keep (fun b=>b<g) w w':=by
 have hsz:(⟨t.toArray⟩:ByteArray).size=t.length:=rfl
 by_cases hb:t.length<256
 ·have t1:decide ((t.length:Int)<256)=true:=by simp;omega
  have hw:=byte_nat hb
  go_enter Tryz.func266,Tryz.ntmps266
  go_wp2_with fail
  refine(VC _ (Keep.refl _ _) t (by omega)).mono ?_
  rintro e w1 ⟨rfl,k1⟩
  rw [ht]
  have hs:=bytes_at w1 [161,UInt8.ofNat t.length] #[.int .u8 161,.int .u8 (t.length:Int)] (by simp only [List.map_cons,List.map_nil,hw];rfl) (by simp)
  have h1:=(h.new k1).new ((Keep.refl (fun _=>True) w1).alloc (.cells #[.int .u8 161,.int .u8 (t.length:Int)] 5))
  go_wp2_with fail
  refine(append_is _ g n h1 _ _ hs (by simp;omega)).mono ?_
  rintro e w2 ⟨rfl,h2,k2⟩
  go_wp2_with fail
  refine(appendString_is _ g _ h2 t (by simp;omega)).mono ?_
  rintro e w3 ⟨rfl,h3,k3⟩
  go_wp2
  go_ret
  exact⟨rfl,h3.mono (by simp;omega),((k1.keep _).trans (((Keep.refl _ w1).alloc _).trans k2)).trans k3⟩
 ·have t1:decide ((t.length:Int)<256)=false:=by simp;omega
  have t2:decide ((t.length:Int)<4294967295)=true:=by simp;omega
  ·go_enter Tryz.func266,Tryz.ntmps266
   go_wp2_with fail
   refine(VC _ (Keep.refl _ _) t (by omega)).mono ?_
   rintro e w1 ⟨rfl,k1⟩
   rw [ht]
   go_wp2_with fail
   refine(appendByte_is _ g n (h.new k1) 177 (by decide) (by omega)).mono ?_
   rintro e w2 ⟨rfl,h2,k2⟩
   go_wp2_with fail
   refine(appendU32 _ g _ h2 _ (by omega) (by omega)).mono ?_
   rintro e w3 ⟨rfl,h3,k3⟩
   go_wp2_with fail
   refine(appendString_is _ g _ h3 t (by omega)).mono ?_
   rintro e w4 ⟨rfl,h4,k4⟩
   go_wp2
   go_ret
   exact⟨rfl,h4.mono (by omega),(((k1.keep _).trans k2).trans k3).trans k4⟩
theorem writeTime_is(w:World)(g n:Nat)(h:BufW w g n)(ms:Int)(h1:-9223372036854775808≤ms)(h2:ms≤9223372036854775807)(hn:n≤1099511600):
 Calls Tryz.prog 269 #[.pointer (some ⟨g,0,none⟩),timeV ms] w fun e w'=>e=.returned (.tuple #[])∧BufW w' g (n+9)∧Keep (fun b=>b<g) w w':=by
 go_enter Tryz.func269,Tryz.ntmps269
 simp only [timeV]
 go_wp2_with fail
 have kA:=(Keep.refl (fun _=>True) w).alloc (.cells #[.int .i64 (ms/1000),.int .i64 (ms % 1000*1000000)] 228)
 refine(appendByte_k w _ g n h kA 131 (by decide) (by omega)).mono ?_
 rintro e w2 ⟨rfl,b2,k2⟩
 have hlt:=h.lt
 have hb:=k2.blk (blk_new w _) (.inr (Nat.le_refl _))
 have c0:=(blk_cell hb 0).trans rfl
 have c1:=(blk_cell hb 1).trans rfl
 clear hb
 go_wp2_with fail
 refine(unixMilli_is ms _ h1 h2).mono ?_
 rintro e w3 ⟨rfl,k3⟩
 go_wp2_with fail
 refine(appendU64 _ g _ (b2.new k3) _ (by have:=IntKind.wrap_u64 ms;omega) (by omega)).mono ?_
 rintro e w4 ⟨rfl,b4,k4⟩
 go_wp2
 refine bodyPost_end (v:=.tuple #[]) (by simp [results,Tryz.results269]) rfl ⟨rfl,b4.mono (by omega),?_⟩
 exact(((New.keep kA _).then k2 (fun i hi hg=>.inl hg)).trans (k3.keep _)).trans k4
theorem bytes_is(w:World)(g n:Nat)(h:BufW w g n)(hn:n≤1099511600000):
 Calls Tryz.prog 27 #[.pointer (some ⟨g,0,none⟩)] w fun e w'=>∃v l,e=.returned v∧New w w'∧SlB w' v l∧l.length≤n:=by
 obtain⟨sk,bs,h1,h2,h3⟩:=h
 have hc:=(blk_cell h1 0).trans rfl
 have hd:=(blk_cell h1 1).trans rfl
 have hf:=blk_free h1 0
 have hg:=blk_free h1 1
 have ho:=h2.out.here
 obtain⟨A,c,hs,hc1,hc2,hA⟩:=ho
 subst hs
 have fin:∀A' c' n',(n'=bs.length)→(bs≠[]→A'=A∧c'=c)→n'≤c'→c'≤9223372036854775807→∀w',New w w'→SlB w' (.slice A' n' c') bs:=fun A' c' n' e1 hh e2 e3 w' k=>by
  subst e1
  exact⟨A',c',rfl,e2,e3,fun hne=>by
   obtain⟨rfl,rfl⟩:=hh hne
   obtain⟨d,i,e,hb⟩:=hA hne
   obtain⟨cells,hd2,hc⟩:=hb
   exact⟨d,i,e,cells,k.blk hd2 trivial,hc⟩⟩
 have F:=Lib.hid fin
 clear fin h1 h2
 by_cases hne:bs=[]
 ·subst hne
  by_cases hc0:c=0
  ·subst hc0
   go_enter Tryz.func27,Tryz.ntmps27
   go_wp2
   go_quiet (fail)
   go_wp2
   go_ret
   exact⟨_,_,rfl,(Keep.refl _ w).drewN _,F.out _ _ _ rfl (fun h=>absurd rfl h) (Nat.le_refl _) (by omega) _ ((Keep.refl _ w).drewN _),by simp⟩
  ·go_enter Tryz.func27,Tryz.ntmps27
   go_wp2
   go_quiet (fail)
   go_wp2
   go_ret
   exact⟨_,_,rfl,(Keep.refl _ w).drewN _,F.out _ _ _ rfl (fun h=>absurd rfl h) (by omega) (by omega) _ ((Keep.refl _ w).drewN _),by simp⟩
 ·obtain⟨d,i,rfl,_⟩:=hA hne
  have hpos:=List.length_pos_iff.2 hne
  have hc0:¬c=0:=by omega
  go_enter Tryz.func27,Tryz.ntmps27
  go_wp2
  go_quiet (fail)
  go_wp2
  go_ret
  exact⟨_,_,rfl,(Keep.refl _ w).drewN _,F.out _ _ _ rfl (fun _=>⟨rfl,rfl⟩) (by omega) (by omega) _ ((Keep.refl _ w).drewN _),h3⟩
end Go.Proofs.YtfoegolfadhmjaaGreatDoor
namespace Go.Proofs.YtfoegolfadhmjaaGreatDoor
open Go.RowKit Go.WideShapes
theorem marsh_bool(w:World)(g:Nat)(h:BufW w g 0)(b:Bool):
 Calls Tryz.prog 244 #[.pointer (some ⟨g,0,none⟩),.iface 4 (.bool b)] w fun e w'=>e=.returned .nilIface∧BufW w' g 200000∧Keep (fun b=>b<g) w w':=by
 cases b
 all_goals
  go_enter Tryz.func244,Tryz.ntmps244
  go_wp2_with fail
  refine(appendByte_is _ g 0 h _ (by decide) (by omega)).mono ?_
  rintro e w1 ⟨rfl,h1,k1⟩
  go_wp2
  go_ret
  exact⟨rfl,h1.mono (by omega),k1⟩
theorem marsh_u8(w:World)(g:Nat)(h:BufW w g 0)(n:Nat)(hn:n<256):
 Calls Tryz.prog 244 #[.pointer (some ⟨g,0,none⟩),.iface 5 (.int .u8 n)] w fun e w'=>e=.returned .nilIface∧BufW w' g 200000∧Keep (fun b=>b<g) w w':=by
 have hw:=byte_nat hn
 have hs:=bytes_at w [80,UInt8.ofNat n] #[.int .u8 80,.int .u8 (n:Int)] (by simp only [List.map_cons,List.map_nil,hw];rfl) (by simp)
 have hb:=h.new ((Keep.refl (fun _=>True) w).alloc (.cells #[.int .u8 80,.int .u8 (n:Int)] 5))
 clear hw
 go_enter Tryz.func244,Tryz.ntmps244
 go_wp2_with fail
 refine(append_is _ g 0 hb _ _ hs (by simp)).mono ?_
 rintro e w1 ⟨rfl,h1,k1⟩
 go_wp2
 go_ret
 exact⟨rfl,h1.mono (by simp),((Keep.refl _ w).alloc _).trans k1⟩
theorem marsh_i8(w:World)(g:Nat)(h:BufW w g 0)(x:Int):
 Calls Tryz.prog 244 #[.pointer (some ⟨g,0,none⟩),.iface 191 (.int .i8 x)] w fun e w'=>e=.returned .nilIface∧BufW w' g 200000∧Keep (fun b=>b<g) w w':=by
 have hs:=bytes_at w [81,UInt8.ofNat (IntKind.u8.wrap x).toNat] #[.int .u8 81,.int .u8 (IntKind.u8.wrap x)] (by simp only [List.map_cons,List.map_nil,byte_int];rfl) (by simp)
 have hb:=h.new ((Keep.refl (fun _=>True) w).alloc (.cells #[.int .u8 81,.int .u8 (IntKind.u8.wrap x)] 5))
 rw [show IntKind.u8.wrap x=x % 256 from IntKind.wrap_u8 x]at hs hb
 go_enter Tryz.func244,Tryz.ntmps244
 go_wp2_with fail
 refine(append_is _ g 0 hb _ _ hs (by simp)).mono ?_
 rintro e w1 ⟨rfl,h1,k1⟩
 go_wp2
 go_ret
 exact⟨rfl,h1.mono (by simp),((Keep.refl _ w).alloc _).trans k1⟩
theorem marsh_u16(w:World)(g:Nat)(h:BufW w g 0)(x:Int)(hx:0≤x∧x<65536):
 Calls Tryz.prog 244 #[.pointer (some ⟨g,0,none⟩),.iface 117 (.int .u16 x)] w fun e w'=>e=.returned .nilIface∧BufW w' g 200000∧Keep (fun b=>b<g) w w':=by
 go_enter Tryz.func244,Tryz.ntmps244
 go_wp2_with fail
 refine(appendByte_is _ g 0 h 96 (by decide) (by omega)).mono ?_
 rintro e w1 ⟨rfl,h1,k1⟩
 go_wp2_with fail
 refine(appendU16 _ g _ h1 _ hx (by omega)).mono ?_
 rintro e w2 ⟨rfl,h2,k2⟩
 go_wp2
 go_ret
 exact⟨rfl,h2.mono (by omega),k1.trans k2⟩
theorem marsh_i16(w:World)(g:Nat)(h:BufW w g 0)(x:Int):
 Calls Tryz.prog 244 #[.pointer (some ⟨g,0,none⟩),.iface 195 (.int .i16 x)] w fun e w'=>e=.returned .nilIface∧BufW w' g 200000∧Keep (fun b=>b<g) w w':=by
 go_enter Tryz.func244,Tryz.ntmps244
 go_wp2_with fail
 refine(appendByte_is _ g 0 h 97 (by decide) (by omega)).mono ?_
 rintro e w1 ⟨rfl,h1,k1⟩
 go_wp2_with fail
 refine(appendU16 _ g _ h1 _ (by have:=IntKind.wrap_u16 x;omega) (by omega)).mono ?_
 rintro e w2 ⟨rfl,h2,k2⟩
 go_wp2
 go_ret
 exact⟨rfl,h2.mono (by omega),k1.trans k2⟩
theorem marsh_u32(w:World)(g:Nat)(h:BufW w g 0)(x:Nat)(hx:x<4294967296):
 Calls Tryz.prog 244 #[.pointer (some ⟨g,0,none⟩),.iface 22 (.int .u32 x)] w fun e w'=>e=.returned .nilIface∧BufW w' g 200000∧Keep (fun b=>b<g) w w':=by
 go_enter Tryz.func244,Tryz.ntmps244
 go_wp2_with fail
 refine(writeU32 _ g 0 h x hx (by omega)).mono ?_
 rintro e w1 ⟨rfl,h1,k1⟩
 go_wp2
 go_ret
 exact⟨rfl,h1.mono (by omega),k1⟩
theorem marsh_u64(w:World)(g:Nat)(h:BufW w g 0)(x:Nat)(hx:x<18446744073709551616):
 Calls Tryz.prog 244 #[.pointer (some ⟨g,0,none⟩),.iface 26 (.int .u64 x)] w fun e w'=>e=.returned .nilIface∧BufW w' g 200000∧Keep (fun b=>b<g) w w':=by
 go_enter Tryz.func244,Tryz.ntmps244
 go_wp2_with fail
 refine(writeU64 _ g 0 h x hx (by omega)).mono ?_
 rintro e w1 ⟨rfl,h1,k1⟩
 go_wp2
 go_ret
 exact⟨rfl,h1.mono (by omega),k1⟩
theorem marsh_i32(w:World)(g:Nat)(h:BufW w g 0)(x:Int)(hx:-2147483648≤x∧x<2147483648):
 Calls Tryz.prog 244 #[.pointer (some ⟨g,0,none⟩),.iface 21 (.int .i32 x)] w fun e w'=>e=.returned .nilIface∧BufW w' g 200000∧Keep (fun b=>b<g) w w':=by
 go_enter Tryz.func244,Tryz.ntmps244
 go_wp2_with fail
 refine(writeI32 _ g 0 h x hx (by omega)).mono ?_
 rintro e w1 ⟨rfl,h1,k1⟩
 go_wp2
 go_ret
 exact⟨rfl,h1.mono (by omega),k1⟩
theorem marsh_i64(w:World)(g:Nat)(h:BufW w g 0)(x:Int)(hx:-9223372036854775808≤x∧x<9223372036854775808):
 Calls Tryz.prog 244 #[.pointer (some ⟨g,0,none⟩),.iface 2 (.int .i64 x)] w fun e w'=>e=.returned .nilIface∧BufW w' g 200000∧Keep (fun b=>b<g) w w':=by
 go_enter Tryz.func244,Tryz.ntmps244
 go_wp2_with fail
 refine(writeI64 _ g 0 h x hx (by omega)).mono ?_
 rintro e w1 ⟨rfl,h1,k1⟩
 go_wp2
 go_ret
 exact⟨rfl,h1.mono (by omega),k1⟩
theorem marsh_str(w:World)(g:Nat)(h:BufW w g 0)(VC:Vld w)(t:List UInt8)(ht:Lib.validD t=true)(hl:t.length≤131072):
 Calls Tryz.prog 244 #[.pointer (some ⟨g,0,none⟩),.iface 9 (.string ⟨t.toArray⟩)] w fun e w'=>e=.returned .nilIface∧BufW w' g 200000∧Keep (fun b=>b<g) w w':=by
 go_enter Tryz.func244,Tryz.ntmps244
 go_wp2_with fail
 refine(writeString_is _ VC g 0 h t ht (by omega) (by omega)).mono ?_
 rintro e w1 ⟨rfl,h1,k1⟩
 go_wp2
 go_ret
 exact⟨rfl,h1.mono (by omega),k1⟩
theorem marsh_time(w:World)(g:Nat)(h:BufW w g 0)(ms:Int)(h1:-9223372036854775808≤ms)(h2:ms≤9223372036854775807):
 Calls Tryz.prog 244 #[.pointer (some ⟨g,0,none⟩),.iface 228 (timeV ms)] w fun e w'=>e=.returned .nilIface∧BufW w' g 200000∧Keep (fun b=>b<g) w w':=by
 have hc:=fun w (h:BufW w g 0)=>writeTime_is w g 0 h ms h1 h2 (by omega)
 simp only [timeV]at hc ⊢
 go_enter Tryz.func244,Tryz.ntmps244
 go_wp2_with fail
 refine(hc _ (h.new ((Keep.refl (fun _=>True) w).alloc _))).mono ?_
 rintro e w1 ⟨rfl,h1,k1⟩
 go_wp2
 go_ret
 exact⟨rfl,h1.mono (by omega),((Keep.refl _ w).alloc _).trans k1⟩
end Go.Proofs.YtfoegolfadhmjaaGreatDoor
