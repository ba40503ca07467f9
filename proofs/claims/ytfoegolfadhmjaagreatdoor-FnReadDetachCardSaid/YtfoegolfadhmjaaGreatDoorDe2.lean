/- A detach off the buffer. A detach off the buffer: its three fields. A detach off the buffer, in whatever form. What was read of a detach, as the program's own. impl.ReadDetach. Turned from the text of ReadFault. -/
import Derived.Test.YtfoegolfadhmjaaGreatDoorU06
import Derived.Test.YtfoegolfadhmjaaGreatDoorDe1
set_option linter.unusedVariables false
set_option linter.unusedSimpArgs false
set_option maxRecDepth 100000
set_option maxHeartbeats 8000000
set_option linter.all false
namespace Go.Proofs.YtfoegolfadhmjaaGreatDoor
open Go.RowKit Go.WideShapes
theorem newErr_is(p:Addr)(w:World):Calls Tryz.prog 57 #[.pointer (some p)] w fun e w'=>e=.returned (.iface 170 (.agg #[.pointer (some p)]))∧w'=w:=by
 go_enter Tryz.func57,Tryz.ntmps57
 go_wp2
 go_ret
 exact⟨rfl,rfl⟩
def ErrB(x t0 t1:List UInt8)(ps:List (V×V)):Prop:=
 ∃(n:Nat) (od:Int) (d lb:List UInt8) (bs:List (List UInt8)),x=0::(d++(lb++bs.flatten))∧Leaf (.mk 5 29 [] [] od []) d∧LHd n bs.flatten lb∧bs.length=n∧1≤n∧n≤3∧n≤bs.flatten.length∧
  (∀x,bs[0]? =some x→ReadsT t0 x∧∃b0 b',x=b0::b'∧b0≠64)∧(∀x,bs[1]? =some x→FieldT t1 x)∧(∀x,bs[2]? =some x→FieldM ps x)∧(n<2→t1=[])∧(n<3→ps=[])
theorem ptrErr_is(g b:Nat)(hbg:b≠g)(x r t0 t1:List UInt8)(ps:List (V×V))(hx:ErrB x t0 t1 ps)(c0 c1:Value)(w:World)(hc:w.heap[b]? =some (.cells #[c0,c1,.pointer none] 70 (0,0)))(H:Buf w g (x++r)):
 Calls Tryz.prog 357 #[.agg #[.pointer (some ⟨b,2,none⟩)],.pointer (some ⟨g,0,none⟩)] w fun e w'=>e=.returned .nilIface∧∃be s,w'.heap[b]? =some (.cells #[c0,c1,.pointer (some ⟨be,0,none⟩)] 70 (0,0))∧w.heap.size≤be∧w'.heap[be]? =some (.cells #[.string ⟨t0.toArray⟩,.string ⟨t1.toArray⟩,s] 98 (0,0))∧Keep (fun k=>k≠g∧k≠b) w w'∧Buf w' g r∧InfoD (fun k=>w.heap.size≤k) w' ps s:=by
 obtain⟨n,od,d,lb,bs,rfl,hd,Hh,hbn,hn1,hn3,hlen,h0,h1,h2,h1',h2'⟩:=hx
 have hblt:=lt_blk hc
 have hglt:=H.lt
 have hs0:(w.setCell ⟨b,2,none⟩ (.pointer (some ⟨w.heap.size+1,0,none⟩))).heap.size=w.heap.size:=by simp [World.setCell]
 have kN:New (w.setCell ⟨b,2,none⟩ (.pointer (some ⟨w.heap.size+1,0,none⟩))) (((w.setCell ⟨b,2,none⟩ (.pointer (some ⟨w.heap.size+1,0,none⟩))).alloc (.cells #[.pointer (some ⟨b,2,none⟩)] 170)).alloc (.cells #[.string ⟨#[]⟩,.string ⟨#[]⟩,.map none] 98)):=((Keep.refl (fun _=>True) _).alloc _).alloc _
 have hb0:=blk_set hc 2 (.pointer (some ⟨w.heap.size+1,0,none⟩))
 have hb3:(((w.setCell ⟨b,2,none⟩ (.pointer (some ⟨w.heap.size+1,0,none⟩))).alloc (.cells #[.pointer (some ⟨b,2,none⟩)] 170)).alloc (.cells #[.string ⟨#[]⟩,.string ⟨#[]⟩,.map none] 98)).heap[b]? =some (.cells #[c0,c1,.pointer (some ⟨w.heap.size+1,0,none⟩)] 70 (0,0)):=(kN.blk hb0 trivial).trans (by simp)
 have he3:=blk_new ((w.setCell ⟨b,2,none⟩ (.pointer (some ⟨w.heap.size+1,0,none⟩))).alloc (.cells #[.pointer (some ⟨b,2,none⟩)] 170)) (.cells #[.string ⟨#[]⟩,.string ⟨#[]⟩,.map none] 98)
 have hx3:=blk_alloc (blk_new (w.setCell ⟨b,2,none⟩ (.pointer (some ⟨w.heap.size+1,0,none⟩))) (.cells #[.pointer (some ⟨b,2,none⟩)] 170)) (.cells #[.string ⟨#[]⟩,.string ⟨#[]⟩,.map none] 98)
 simp only [World.size_alloc,hs0]at he3 hx3
 have H3:=(H.set hc (by decide) hbg 2 (.pointer (some ⟨w.heap.size+1,0,none⟩))).new kN
 have kS:Keep (fun k=>k≠g∧k≠b) w (((w.setCell ⟨b,2,none⟩ (.pointer (some ⟨w.heap.size+1,0,none⟩))).alloc (.cells #[.pointer (some ⟨b,2,none⟩)] 170)).alloc (.cells #[.string ⟨#[]⟩,.string ⟨#[]⟩,.map none] 98)):=(((Keep.refl (fun k=>k≠g∧k≠b) w).setCell (p:=⟨b,2,none⟩) (.inr (by simp)) (.pointer (some ⟨w.heap.size+1,0,none⟩))).alloc _).alloc _
 have hsz:(((w.setCell ⟨b,2,none⟩ (.pointer (some ⟨w.heap.size+1,0,none⟩))).alloc (.cells #[.pointer (some ⟨b,2,none⟩)] 170)).alloc (.cells #[.string ⟨#[]⟩,.string ⟨#[]⟩,.map none] 98)).heap.size=w.heap.size+2:=by simp [World.setCell]
 have e1:(0::(d++(lb++bs.flatten)))++r=0::(d++(lb++(bs.flatten++r))):=by simp
 rw [e1]at H3
 have hcall:=unm_err g ⟨w.heap.size+1,0,none⟩ 0 (d++(lb++(bs.flatten++r))) (by decide) (fun w'=>∃s,w'.heap[b]? =some (.cells #[c0,c1,.pointer (some ⟨w.heap.size+1,0,none⟩)] 70 (0,0))∧w'.heap[w.heap.size+1]? =some (.cells #[.string ⟨t0.toArray⟩,.string ⟨t1.toArray⟩,s] 98 (0,0))∧Keep (fun k=>k≠g∧k≠b) w w'∧Buf w' g r∧InfoD (fun k=>w.heap.size≤k) w' ps s) _ H3 (fun w1 ha=>by
  refine(error_is g (w.heap.size+1) 0 n od d lb r bs (by omega) hd Hh hbn hn1 hn3 hlen t0 t1 ps h0 h1 h2 h1' h2' w1 (ha.1.blk he3 (show w.heap.size+1≠g by omega)) ha.2).mono ?_
  rintro e w' ⟨rfl,s,q1,q2,q3,q4⟩
  have hs1:=ha.1.size
  rw [hsz]at hs1
  refine⟨rfl,s,?_,q1,?_,q3,q4.imp id fun h=>h.mono fun k _ hk=>by omega⟩
  ·exact q2.blk (ha.1.blk hb3 hbg) ⟨hbg,by omega⟩
  ·exact(kS.trans (ha.1.mono fun k _ hk=>hk.1)).then q2 (fun i hi hk=>⟨hk.1,by omega⟩))
 have HC:=Lib.hid hcall
 have hc2:=blk_alloc (blk_alloc hc (.cells #[.pointer (some ⟨b,2,none⟩)] 170)) (.cells #[.string ⟨#[]⟩,.string ⟨#[]⟩,.map none] 98)
 have z0:=(blk_cell (blk_alloc (blk_new w (.cells #[.pointer (some ⟨b,2,none⟩)] 170)) (.cells #[.string ⟨#[]⟩,.string ⟨#[]⟩,.map none] 98)) 0).trans rfl
 have z2:=(blk_cell hc2 2).trans rfl
 have F2:=blk_free hc 2
 have y0:=(blk_cell hx3 0).trans rfl
 have y2:=(blk_cell hb3 2).trans rfl
 have x0:=(blk_cell (blk_new w (.cells #[.pointer (some ⟨b,2,none⟩)] 170)) 0).trans rfl
 have x2:=(blk_cell (blk_alloc hc (.cells #[.pointer (some ⟨b,2,none⟩)] 170)) 2).trans rfl
 clear hcall h0 h1 h2 h1' h2' hd Hh hbn hn1 hn3 hlen H hc hc2 hb0 hb3 he3 hx3 H3 kS hsz e1 kN
 go_enter Tryz.func357,Tryz.ntmps357
 go_wp2_with fail
 refine HC.out.mono ?_
 rintro e w' ⟨rfl,s,q⟩
 have HQ:=Lib.hid q
 clear q
 go_wp2
 go_ret
 exact⟨rfl,w.heap.size+1,s,HQ.out.1,by omega,HQ.out.2⟩
def U32B(x:List UInt8)(n:Nat):Prop:=(∃b0 b',x=b0::b'∧b0≠64)∧∀(g:Nat) (r:List UInt8) (w:World),Buf w g (x++r)→Calls Tryz.prog 102 #[.pointer (some ⟨g,0,none⟩)] w fun e w'=>e=.returned (.tuple #[.int .u32 (n:Int),.nilIface])∧Adv g r w w'
def BoolB(x:List UInt8)(c:Bool):Prop:=(x=[64]∧c=false)∨(∃b0 b',x=b0::b'∧b0≠64)∧∀(g:Nat) (r:List UInt8) (w:World),Buf w g (x++r)→Calls Tryz.prog 109 #[.pointer (some ⟨g,0,none⟩)] w fun e w'=>e=.returned (.tuple #[.bool c,.nilIface])∧Adv g r w w'
abbrev FltO:=Option (List UInt8×List UInt8×List (V×V))
def FltB(x:List UInt8):FltO→Prop
 | none=>x=[64]
 | some (t0,t1,ps)=>ErrB x t0 t1 ps
def FltR(base:Nat)(w:World)(c:Value):FltO→Prop
 | none=>c=.pointer none
 | some (t0,t1,ps)=>∃be s,c=.pointer (some ⟨be,0,none⟩)∧base≤be∧w.heap[be]? =some (.cells #[.string ⟨t0.toArray⟩,.string ⟨t1.toArray⟩,s] 98 (0,0))∧InfoD (fun k=>base≤k) w ps s
def detC(b:Nat):Array Value:=#[.iface 125 (.pointer (some ⟨b,0,none⟩)),.func (.func 55) #[] #[],.iface 63 (.pointer (some ⟨b,1,none⟩)),.nilFunc,.iface 170 (.agg #[.pointer (some ⟨b,2,none⟩)]),.nilFunc]
theorem detach_enter(g b:Nat)(w:World)(Q:World→Prop)
 (hcall:∀w1,New w w1→w1.heap[w.heap.size]? =some (.cells (detC b) 130 (0,0))→
  Calls Tryz.prog 54 #[.pointer (some ⟨g,0,none⟩),.int .u8 22,.slice (some ⟨w.heap.size,0,none⟩) 3 3] w1 fun e w'=>e=.returned .nilIface∧Q w'):
 Calls Tryz.prog 25 #[.pointer (some ⟨b,0,none⟩),.pointer (some ⟨g,0,none⟩)] w fun e w'=>e=.returned .nilIface∧Q w':=by
 have h0:=hcall (w.drew.alloc (.cells (detC b) 130)) (((Keep.refl _ w).drew).alloc _) (blk_new _ _)
 unfold detC at h0
 have HC:=Lib.hid h0
 clear hcall h0
 go_enter Tryz.func25,Tryz.ntmps25
 go_wp2_with fail
 go_region_held3 (fun _=>True) (first | go_keep | trivial)
  (first | (go_at_call 57;refine(newErr_is ⟨b,2,none⟩ _).mono ?_;rintro e w4 ⟨rfl,rfl⟩) | (go_at_call 54;refine HC.out.mono ?_;rintro e w4 ⟨rfl,hq⟩))
 go_wp2
 go_ret
 exact⟨rfl,hq⟩
theorem FltR.keep{ok':Nat→Prop}{base:Nat}{w w':World}{c:Value}{er:FltO}(h:FltR base w c er)(k:Keep ok' w w')(ho:∀k,k<w.heap.size→base≤k→ok' k):FltR base w' c er:=by
 rcases er with _ | ⟨t0,t1,ps⟩
 ·exact h
 ·obtain⟨be,s,e,hb,hd,hi⟩:=h
  exact⟨be,s,e,hb,k.blk hd (ho be (lt_blk hd) hb),hi.keep k ho⟩
def DetP(w:World)(g b s h:Nat)(cl:Bool)(er:FltO)(j:Nat)(rem:List UInt8)(wr:World):Prop:=
 ∃c0 c1 c2,Buf wr g rem∧Keep (fun k=>k≠g∧k≠b) w wr∧wr.heap[b]? =some (.cells #[c0,c1,c2] 70 (0,0))∧wr.heap[s]? =some (.cells (detC b) 130 (0,0))∧
  (1≤j→c0=.int .u32 (h:Int))∧(2≤j→c1=.bool cl)∧(j<2→c1=.bool false)∧(3≤j→FltR w.heap.size wr c2 er)∧(j<3→c2=.pointer none)
def detT(i:Nat):TypeId:=if i=0 then 125 else if i=1 then 63 else 170
def detV(b i:Nat):Value:=if i=2 then .agg #[.pointer (some ⟨b,2,none⟩)]else .pointer (some ⟨b,i,none⟩)
def detN(i:Nat):Value:=if i=0 then .func (.func 55) #[] #[]else .nilFunc
theorem det_cells(w:World)(b s:Nat)(h:w.heap[s]? =some (.cells (detC b) 130 (0,0))):
 ∀i,i<3→w.cell? ⟨s,i*2,none⟩=some (.iface (detT i) (detV b i))∧w.cell? ⟨s,i*2+1,none⟩=some (detN i):=by
 intro i hi
 rw [blk_cell h,blk_cell h]
 match i,hi with
 | 0,_=>exact⟨rfl,rfl⟩
 | 1,_=>exact⟨rfl,rfl⟩
 | 2,_=>exact⟨rfl,rfl⟩
theorem detach_is(g b n:Nat)(od:Int)(d lb r:List UInt8)(bs:List (List UInt8))(hgb:b≠g)(hd:Leaf (.mk 5 22 [] [] od []) d)(Hh:LHd n bs.flatten lb)(hbn:bs.length=n)(hn1:1≤n)(hn3:n≤3)(hlen:n≤bs.flatten.length)
 (h:Nat) (cl:Bool) (er:FltO) (h0:∀x,bs[0]? =some x→U32B x h) (h1:∀x,bs[1]? =some x→BoolB x cl) (h2:∀x,bs[2]? =some x→FltB x er) (h1':n<2→cl=false) (h2':n<3→er=none)
 (w:World) (c00:Value) (hc:w.heap[b]? =some (.cells #[c00,.bool false,.pointer none] 70 (0,0))) (H:Buf w g (0::(d++(lb++(bs.flatten++r))))):
 Calls Tryz.prog 25 #[.pointer (some ⟨b,0,none⟩),.pointer (some ⟨g,0,none⟩)] w fun e w'=>e=.returned .nilIface∧∃c2,w'.heap[b]? =some (.cells #[.int .u32 (h:Int),.bool cl,c2] 70 (0,0))∧Keep (fun k=>k≠g∧k≠b) w w'∧Buf w' g r∧FltR w.heap.size w' c2 er:=by
 have hblt:=lt_blk hc
 have hglt:=H.lt
 refine(detach_enter g b w (fun w'=>DetP w g b w.heap.size h cl er 3 r w') fun w1 k1 hs=>?_).mono ?_
 ·have hc1:=k1.blk hc trivial
  have hs2:=k1.size
  refine composite_is g 22 n 3 w.heap.size od d lb r bs (by omega) hd Hh hbn hn3 (by omega) hlen detT (detV b) detN (fun i hi=>?_) (DetP w g b w.heap.size h cl er) ?_ ?_ ?_ ?_ w1 (H.new k1) ?_
  ·by_cases hi0:i=0
   ·exact .inr ⟨55,#[],by unfold detN;rw [if_pos hi0]⟩
   ·exact .inl (by unfold detN;rw [if_neg hi0])
  ·rintro j rem wr ⟨c0,c1,c2,q1,q2,q3,q4,_⟩
   exact⟨q1,det_cells wr b _ q4⟩
  ·rintro j rem wr w' ⟨c0,c1,c2,q1,q2,q3,q4,q5,q6,q6',q7,q8⟩ k
   exact⟨c0,c1,c2,q1.new k,q2.trans (k.keep _),k.blk q3 trivial,k.blk q4 trivial,q5,q6,q6',fun hj=>(q7 hj).keep k fun _ _ _=>trivial,q8⟩
  ·intro j hj rem wr hP
   have step:∀{rem':List UInt8} w',Adv g rem' wr w'→DetP w g b w.heap.size h cl er j rem' w':=fun w' ha=>by
    obtain⟨c0,c1,c2,q1,q2,q3,q4,q5,q6,q6',q7,q8⟩:=hP
    exact⟨c0,c1,c2,ha.2,q2.trans (ha.1.mono fun k _ hk=>hk.1),ha.1.blk q3 hgb,ha.1.blk q4 (show w.heap.size≠g by omega),q5,q6,q6',fun hj=>(q7 hj).keep ha.1 fun k _ hk=>by show k≠g;omega,q8⟩
   have hj3:j=0∨j=1∨j=2:=by omega
   rcases hj3 with rfl | rfl | rfl
   ·obtain⟨⟨b0,b',hb,hb0⟩,hr⟩:=h0 bs[0] (by simp [hj])
    refine .inr ⟨b0,b',hb,hb0,fun w' ha=>?_⟩
    obtain⟨c0,c1,c2,q1,q2,q3,q4,q5,q6,q6',q7,q8⟩:=step w' ha
    rw [hb]at q1
    refine(unm_u32 g ⟨b,0,none⟩ hgb b0 b' rem hb0 h (fun w2 B2=>hr g rem w2 (by rw [hb];exact B2)) w' c0 ((blk_cell q3 0).trans rfl) (blk_free q3 0) q1).mono ?_
    rintro e w4 ⟨rfl,w3,rfl,ha3⟩
    have hc3:=ha3.1.blk q3 hgb
    refine⟨rfl,.int .u32 (h:Int),c1,c2,ha3.2.set hc3 (by decide) hgb _ _,?_,?_,?_,fun _=>rfl,fun h=>absurd h (by omega),fun _=>q6' (by omega),fun h=>absurd h (by omega),fun _=>q8 (by omega)⟩
    ·exact(q2.trans (ha3.1.mono fun k _ hk=>hk.1)).setCell (p:=⟨b,0,none⟩) (.inr (by simp)) _
    ·simpa using blk_set hc3 0 (.int .u32 (h:Int))
    ·exact blk_far (ha3.1.blk q4 (show w.heap.size≠g by omega)) (p:=⟨b,0,none⟩) (show w.heap.size≠b by omega) _
   ·rcases h1 bs[1] (by simp [hj])with⟨hb,ht⟩ | ⟨⟨b0,b',hb,hb0⟩,hr⟩
    ·refine .inl ⟨hb,fun w' ha=>.inl ⟨rfl,?_⟩⟩
     obtain⟨c0,c1,c2,q1,q2,q3,q4,q5,q6,q6',q7,q8⟩:=step w' ha
     exact⟨c0,c1,c2,q1,q2,q3,q4,fun _=>q5 (by omega),fun _=>by rw [q6' (by omega),ht],fun h=>absurd h (by omega),fun h=>absurd h (by omega),fun _=>q8 (by omega)⟩
    ·refine .inr ⟨b0,b',hb,hb0,fun w' ha=>?_⟩
     obtain⟨c0,c1,c2,q1,q2,q3,q4,q5,q6,q6',q7,q8⟩:=step w' ha
     rw [hb]at q1
     refine(unm_bool g ⟨b,1,none⟩ hgb b0 b' rem hb0 cl (fun w2 B2=>hr g rem w2 (by rw [hb];exact B2)) w' c1 ((blk_cell q3 1).trans rfl) (blk_free q3 1) q1).mono ?_
     rintro e w4 ⟨rfl,w3,rfl,ha3⟩
     have hc3:=ha3.1.blk q3 hgb
     refine⟨rfl,c0,.bool cl,c2,ha3.2.set hc3 (by decide) hgb _ _,?_,?_,?_,fun _=>q5 (by omega),fun _=>rfl,fun h=>absurd h (by omega),fun h=>absurd h (by omega),fun _=>q8 (by omega)⟩
     ·exact(q2.trans (ha3.1.mono fun k _ hk=>hk.1)).setCell (p:=⟨b,1,none⟩) (.inr (by simp)) _
     ·simpa using blk_set hc3 1 (.bool cl)
     ·exact blk_far (ha3.1.blk q4 (show w.heap.size≠g by omega)) (p:=⟨b,1,none⟩) (show w.heap.size≠b by omega) _
   ·have hf:=h2 bs[2] (by simp [hj])
    rcases er with _ | ⟨t0,t1,ps⟩
    ·refine .inl ⟨hf,fun w' ha=>.inl ⟨rfl,?_⟩⟩
     obtain⟨c0,c1,c2,q1,q2,q3,q4,q5,q6,q6',q7,q8⟩:=step w' ha
     exact⟨c0,c1,c2,q1,q2,q3,q4,fun _=>q5 (by omega),fun _=>q6 (by omega),fun h=>absurd h (by omega),fun _=>q8 (by omega),fun h=>absurd h (by omega)⟩
    ·have hx:ErrB bs[2] t0 t1 ps:=hf
     obtain⟨b',hb⟩:∃b',bs[2]=0::b':=by
      obtain⟨_,_,d',lb',bs',e,_⟩:=hx
      exact⟨_,e⟩
     refine .inr ⟨0,b',hb,by decide,fun w' ha=>?_⟩
     obtain⟨c0,c1,c2,q1,q2,q3,q4,q5,q6,q6',q7,q8⟩:=step w' ha
     rw [hb]at q1
     refine unm_ptrErr g ⟨b,2,none⟩ 0 (b'++rem) (by decide) (DetP w g b w.heap.size h cl (some (t0,t1,ps)) 3 rem) w' q1 fun w2 ha2=>?_
     have hc2:=ha2.1.blk q3 hgb
     rw [q8 (by omega)]at hc2
     refine(ptrErr_is g b hgb bs[2] rem t0 t1 ps hx c0 c1 w2 hc2 (by rw [hb];exact ha2.2)).mono ?_
     rintro e w3 ⟨rfl,be,s,u1,u2,u3,u4,u5,u6⟩
     have z1:=q2.size
     have z2:=ha2.1.size
     refine⟨rfl,c0,c1,_,u5,(q2.trans (ha2.1.mono fun k _ hk=>hk.1)).trans u4,u1,u4.blk (ha2.1.blk q4 (show w.heap.size≠g by omega)) (show w.heap.size≠g∧w.heap.size≠b by omega),fun _=>q5 (by omega),fun _=>q6 (by omega),fun h=>absurd h (by omega),fun _=>⟨be,s,rfl,by omega,u3,u6.imp id fun h=>h.mono fun k _ hk=>by omega⟩,fun h=>absurd h (by omega)⟩
  ·intro j wr hnj hj3 ⟨c0,c1,c2,q1,q2,q3,q4,q5,q6,q6',q7,q8⟩
   have hj12:j=1∨j=2:=by omega
   rcases hj12 with rfl | rfl
   ·exact .inl ⟨rfl,c0,c1,c2,q1,q2,q3,q4,fun _=>q5 (by omega),fun _=>by rw [q6' (by omega),h1' (by omega)],fun h=>absurd h (by omega),fun h=>absurd h (by omega),fun _=>q8 (by omega)⟩
   ·exact .inl ⟨rfl,c0,c1,c2,q1,q2,q3,q4,fun _=>q5 (by omega),fun _=>q6 (by omega),fun h=>absurd h (by omega),fun _=>by rw [h2' (by omega)];exact q8 (by omega),fun h=>absurd h (by omega)⟩
  ·intro w' ha
   exact⟨_,_,_,ha.2,(k1.keep _).trans (ha.1.mono fun k _ hk=>hk.1),ha.1.blk hc1 hgb,ha.1.blk hs (show w.heap.size≠g by omega),fun h=>absurd h (by omega),fun h=>absurd h (by omega),fun _=>rfl,fun h=>absurd h (by omega),fun _=>rfl⟩
 ·rintro e w' ⟨rfl,c0,c1,c2,q1,q2,q3,q4,q5,q6,q6',q7,q8⟩
  rw [q5 (by omega),q6 (by omega)]at q3
  exact⟨rfl,c2,q3,q2,q1,q7 (by omega)⟩
def FltC(w:World):FltO→Prop
 | none=>True
 | some (_,_,ps)=>InfoA ps∧∀w1,New w w1→PairsC w1
theorem FltC.new{w w':World}{er:FltO}(h:FltC w er)(k:New w w'):FltC w' er:=by
 rcases er with _ | ⟨t0,t1,ps⟩
 ·trivial
 ·exact⟨h.1,fun w1 k1=>h.2 w1 (k.trans k1)⟩
def FltS:FltO→List Flt→Prop
 | none,fs=>fs=[]
 | some (t0,t1,ps),fs=>∃us qs,fs=[(t0,t1,us)]∧ps.Perm qs∧Sims (flat2 qs) us∧us.length=2*ps.length
theorem faulted_nil(w:World):Calls Tryz.prog 58 #[.pointer none] w fun e w'=>e=.returned (.tuple #[.slice none 0 0,.bool true])∧w'=w:=by
 go_enter Tryz.func58,Tryz.ntmps58
 go_wp2
 go_ret2
 exact⟨rfl,rfl⟩
theorem faulted_any(er:FltO)(base:Nat)(c:Value)(w:World)(hr:FltR base w c er)(hC:FltC w er):
 Calls Tryz.prog 58 #[c] w fun e w'=>∃A n cc fs,e=.returned (.tuple #[.slice A n cc,.bool true])∧New w w'∧Dep (fun b=>w.heap.size≤b) w' (fun w=>LF w fs (.slice A n cc))∧FltS er fs:=by
 rcases er with _ | ⟨t0,t1,ps⟩
 ·obtain rfl:c=.pointer none:=hr
  refine(faulted_nil w).mono ?_
  rintro e w' ⟨rfl,rfl⟩
  exact⟨none,0,0,[],rfl,Keep.refl _ _,fun _ _=>⟨none,0,rfl,Nat.le_refl _,by omega,fun h=>absurd rfl h⟩,rfl⟩
 ·obtain⟨be,s,rfl,-,hd,hi⟩:=hr
  refine(faulted_is be t0 t1 ps s hi.shape w hd (hi.made hC.1 (hC.2 w (Keep.refl _ _)))).mono ?_
  rintro e w' ⟨d,s',us,qs,rfl,k,hsz,hd',hp,hs,hl,hdep⟩
  refine⟨some ⟨d,0,none⟩,1,1,[(t0,t1,us)],rfl,k,?_,us,qs,rfl,hp,hs,hl⟩
  refine((Dep.blk (ok:=fun b=>w.heap.size≤b) hd' hsz).and hdep).imp fun W h=>?_
  obtain⟨h1,h2⟩:=h
  refine⟨some ⟨d,0,none⟩,1,rfl,Nat.le_refl _,by omega,fun _=>⟨d,0,rfl,fun j hj=>?_⟩⟩
  obtain rfl:j=0:=by simp at hj;omega
  exact⟨s',(blk_cell h1 0).trans rfl,(blk_cell h1 1).trans rfl,(blk_cell h1 2).trans rfl,h2⟩
theorem FltR.shape{base:Nat}{w:World}{c:Value}{er:FltO}(h:FltR base w c er):∃p,c=.pointer p:=by
 rcases er with _ | ⟨t0,t1,ps⟩
 ·exact⟨none,h⟩
 ·obtain⟨be,s,e,-⟩:=h
  exact⟨_,e⟩
theorem ofDetach_is(b h:Nat)(cl:Bool)(er:FltO)(base:Nat)(c2:Value)(w:World)(hb:w.heap[b]? =some (.cells #[.int .u32 (h:Int),.bool cl,c2] 70 (0,0)))(hr:FltR base w c2 er)(hC:FltC w er):
 Calls Tryz.prog 26 #[.pointer (some ⟨b,0,none⟩)] w fun e w'=>∃A n cc fs,e=.returned (.tuple #[.agg #[.int .u32 (h:Int),.bool cl,.slice A n cc],.bool true])∧New w w'∧Dep (fun b=>w.heap.size≤b) w' (fun w=>LF w fs (.slice A n cc))∧FltS er fs:=by
 have kA:=(Keep.refl (fun _=>True) w).alloc (.cells #[.int .u32 0,.bool false,.slice none 0 0] 25)
 have hR:=blk_new w (.cells #[.int .u32 0,.bool false,.slice none 0 0] 25)
 have hb1:=kA.blk hb trivial
 have hcall:=faulted_any er base c2 _ (hr.keep kA fun _ _ _=>trivial) (hC.new kA)
 obtain⟨p,rfl⟩:=hr.shape
 have c0:=(blk_cell hb1 0).trans rfl
 have c1:=(blk_cell hb1 1).trans rfl
 have c2:=(blk_cell hb1 2).trans rfl
 have HC:=Lib.hid hcall
 have HB:=Lib.hid hb1
 have HR:=Lib.hid hR
 clear hcall hr hC hb hb1 hR
 go_enter Tryz.func26,Tryz.ntmps26
 go_wp2_with fail
 refine HC.out.mono ?_
 rintro e w1 ⟨A,n,cc,fs,rfl,k1,hdep,hfs⟩
 simp only [World.size_alloc]at hdep
 have hb2:=k1.blk HB.out trivial
 have hR2:=k1.blk HR.out trivial
 have b0:=(blk_cell hb2 0).trans rfl
 have b1:=(blk_cell hb2 1).trans rfl
 have z0:=(blk_cell hR2 0).trans rfl
 have z1:=(blk_cell hR2 1).trans rfl
 have z2:=(blk_cell hR2 2).trans rfl
 have F0:=blk_free hR2 0
 have F1:=blk_free hR2 1
 have F2:=blk_free hR2 2
 have HD:=Lib.hid hdep
 have HS:=Lib.hid hfs
 have kk:=kA.trans k1
 clear hdep hfs hb2 hR2
 go_wp2_with fail
 go_region
 all_goals
  go_wp2
  refine bodyPost_ret (v:=.tuple #[.agg #[.int .u32 (h:Int),.bool cl,.slice A n cc],.bool true]) (by simp [results,Tryz.results26,go_sem,z0,z1,z2]) rfl ⟨A,n,cc,fs,rfl,?_,?_,HS.out⟩
  ·refine Keep.drew ?_
   repeat (refine Keep.setCell ?_ (Or.inl (b:=¬True) (Nat.le_refl _)) _)
   exact kk
  ·refine Dep.mono (ok:=fun b=>w.heap.size+1≤b) ?_ (fun k _ hk=>by omega)
   refine Dep.keep (ok':=fun b=>b≠w.heap.size) HD.out ?_ (fun k _ hk=>by omega)
   refine Keep.drew ?_
   repeat (refine Keep.setCell ?_ (Or.inr (by simp)) _)
   exact Keep.refl _ _
theorem noValue22_idle(p q r:Addr)(w:World):
 CallsD Tryz.prog 22 #[.pointer (some p),.pointer (some q),.pointer (some r)] .returning w fun e u' w'=>e=.returned (.tuple #[])∧u'=.returning∧w'=w:=by
 refine callsD_of_wpS Tryz.func22 rfl fun c₀ cs hu=>?_
 apply wpS_seq
 apply wpS_region
 simp [wpOpsS,go_sem,recoverD,hu,Tryz.ntmps22,Exit.thenS]
 refine wpS_cond (t:=false) (by simp [Act.eval,Array.replicate]) ?_
 simp only [Bool.false_eq_true,if_false]
 refine wpS_of_wp (wp_skip ?_)
 cases c₀
 simp_all [bodyPostS,results,Tryz.results22]
theorem readDetach_is(n:Nat)(od:Int)(d lb r:List UInt8)(bs:List (List UInt8))(hd:Leaf (.mk 5 22 [] [] od []) d)(Hh:LHd n bs.flatten lb)(hbn:bs.length=n)(hn1:1≤n)(hn3:n≤3)(hlen:n≤bs.flatten.length)
 (h:Nat) (cl:Bool) (er:FltO) (h0:∀x,bs[0]? =some x→U32B x h) (h1:∀x,bs[1]? =some x→BoolB x cl) (h2:∀x,bs[2]? =some x→FltB x er) (h1':n<2→cl=false) (h2':n<3→er=none)
 (w:World) (hC:FltC w er) (v:Value) (hv:SlB w v (0::(d++(lb++(bs.flatten++r))))) (hmax:(0::(d++(lb++(bs.flatten++r)))).length≤1099511627776):
 Calls Tryz.prog 7 #[v] w fun e w'=>∃A m cc fs rest,e=.returned (.tuple #[.agg #[.int .u32 (h:Int),.bool cl,.slice A m cc],rest,.bool true])∧New w w'∧FltS er fs∧Dep (fun b=>w.heap.size≤b) w' (fun w=>LF w fs (.slice A m cc)∧SlB w rest r):=by
 obtain⟨data,hdata⟩:∃data,data=0::(d++(lb++(bs.flatten++r))):=⟨_,rfl⟩
 have hdne:data≠[]:=by rw [hdata];simp
 rw [←hdata]at hv hmax
 have HDATA:=Lib.hid hdata
 have HA:=Lib.hid hC
 have HV:=Lib.hid hv
 have RD:=Lib.hid (fun (w:World) (g b:Nat) (hgb:b≠g) hc H=>detach_is g b n od d lb r bs hgb hd Hh hbn hn1 hn3 hlen h cl er h0 h1 h2 h1' h2' w (.int .u32 0) hc H)
 obtain⟨A0,c0,hsh,_⟩:=hv
 subst hsh
 clear hd Hh hbn hn1 hn3 hlen h0 h1 h2 h1' h2' hC hdata
 have k3:=(((Keep.refl (fun _=>True) w).alloc (.cells #[.int .u32 0,.bool false,.slice none 0 0] 25)).alloc (.cells #[.slice none 0 0] 27)).alloc (.cells #[.bool false] 4)
 have hcopy:=copied_is _ _ _ (HV.out.new k3) hmax
 go_enter_defers Tryz.func7,Tryz.ntmps7
 go_wp2_with fail
 refine hcopy.mono ?_
 rintro e w4 ⟨v4,rfl,k4,hd4,⟨A4,c4,rfl⟩,hoff⟩
 go_wp2_with fail
 refine(newBuf_is w4 _ data hd4.here hdne hmax hoff).mono ?_
 rintro e w5 ⟨rfl,k5,hB5⟩
 have k6:=(Keep.refl (fun _=>True) w5).alloc (.cells #[.int .u32 0,.bool false,.pointer none] 70)
 have hB6:=hB5.new k6
 have e3:=k3.size
 have e4:=k4.size
 have e5:=k5.size
 simp only [World.size_alloc]at e3 e4
 have hglt:=hB5.lt
 have herr:=RD.out _ w4.heap.size w5.heap.size (by omega) (blk_new w5 _) (by rw [←HDATA.out];exact hB6)
 have k06:=((k3.trans k4).trans k5).trans k6
 have r0:=((((k4.trans k5).trans k6)).blk (blk_alloc (blk_alloc (blk_new w (.cells #[.int .u32 0,.bool false,.slice none 0 0] 25)) (.cells #[.slice none 0 0] 27)) (.cells #[.bool false] 4)) trivial)
 have r1:=((((k4.trans k5).trans k6)).blk (blk_alloc (blk_new (w.alloc (.cells #[.int .u32 0,.bool false,.slice none 0 0] 25)) (.cells #[.slice none 0 0] 27)) (.cells #[.bool false] 4)) trivial)
 have r2:=((((k4.trans k5).trans k6)).blk (blk_new ((w.alloc (.cells #[.int .u32 0,.bool false,.slice none 0 0] 25)).alloc (.cells #[.slice none 0 0] 27)) (.cells #[.bool false] 4)) trivial)
 simp only [World.size_alloc]at r1 r2
 go_wp2_with fail
 refine herr.mono ?_
 rintro e w7 ⟨rfl,s,hb7,k7,hB7,hI⟩
 have r0:=k7.blk r0 (show w.heap.size≠w4.heap.size∧w.heap.size≠w5.heap.size by omega)
 have r1:=k7.blk r1 (show w.heap.size+1≠w4.heap.size∧w.heap.size+1≠w5.heap.size by omega)
 have r2:=k7.blk r2 (show w.heap.size+1+1≠w4.heap.size∧w.heap.size+1+1≠w5.heap.size by omega)
 have k07:New w w7:=k06.then k7 (fun i hi _=>by show i≠_∧i≠_;omega)
 have hof:=ofDetach_is w5.heap.size h cl er _ s w7 hb7 hI (HA.out.new k07)
 have e7:=k7.size
 simp only [World.size_alloc]at e7
 clear hI
 go_wp2_with fail
 refine hof.mono ?_
 rintro e w8 ⟨A,m,cc,fs,rfl,k8,hdep,hfs⟩
 have r0:=k8.blk r0 trivial
 have r1:=k8.blk r1 trivial
 have r2:=k8.blk r2 trivial
 have hB8:=hB7.new k8
 have HS:=Lib.hid hfs
 have HD:=Lib.hid hdep
 clear hfs hdep hb7
 have a0:=(blk_cell r0 0).trans rfl
 have a1:=(blk_cell r0 1).trans rfl
 have a2:=(blk_cell r0 2).trans rfl
 have b0:=(blk_cell r2 0).trans rfl
 have f0:=blk_free r0 0
 have f1:=blk_free r0 1
 have f2:=blk_free r0 2
 have g0:=blk_free r2 0
 have R0:=blk_far (blk_set (blk_set (blk_set r0 0 (.int .u32 (h:Int))) 1 (.bool cl)) 2 (.slice A m cc)) (p:=⟨w.heap.size+1+1,0,none⟩) (show w.heap.size≠w.heap.size+1+1 by omega) (.bool true)
 have R1:=blk_far (blk_far (blk_far (blk_far r1 (p:=⟨w.heap.size,0,none⟩) (show w.heap.size+1≠w.heap.size by omega) (.int .u32 (h:Int))) (p:=⟨w.heap.size,1,none⟩) (show w.heap.size+1≠w.heap.size by omega) (.bool cl)) (p:=⟨w.heap.size,2,none⟩) (show w.heap.size+1≠w.heap.size by omega) (.slice A m cc)) (p:=⟨w.heap.size+1+1,0,none⟩) (show w.heap.size+1≠w.heap.size+1+1 by omega) (.bool true)
 have R2:=blk_set (blk_far (blk_far (blk_far r2 (p:=⟨w.heap.size,0,none⟩) (show w.heap.size+1+1≠w.heap.size by omega) (.int .u32 (h:Int))) (p:=⟨w.heap.size,1,none⟩) (show w.heap.size+1+1≠w.heap.size by omega) (.bool cl)) (p:=⟨w.heap.size,2,none⟩) (show w.heap.size+1+1≠w.heap.size by omega) (.slice A m cc)) 0 (.bool true)
 have hB9:=(((hB8.set r0 (by decide) (show w.heap.size≠w4.heap.size by omega) 0 (.int .u32 (h:Int))).set (blk_set r0 0 (.int .u32 (h:Int))) (by decide) (show w.heap.size≠w4.heap.size by omega) 1 (.bool cl)).set (blk_set (blk_set r0 0 (.int .u32 (h:Int))) 1 (.bool cl)) (by decide) (show w.heap.size≠w4.heap.size by omega) 2 (.slice A m cc)).set (blk_far (blk_far (blk_far r2 (p:=⟨w.heap.size,0,none⟩) (show w.heap.size+1+1≠w.heap.size by omega) (.int .u32 (h:Int))) (p:=⟨w.heap.size,1,none⟩) (show w.heap.size+1+1≠w.heap.size by omega) (.bool cl)) (p:=⟨w.heap.size,2,none⟩) (show w.heap.size+1+1≠w.heap.size by omega) (.slice A m cc)) (by decide) (show w.heap.size+1+1≠w4.heap.size by omega) 0 (.bool true)
 have k8':=k07.trans k8
 have k9:New w ((((w8.setCell ⟨w.heap.size,0,none⟩ (.int .u32 (h:Int))).setCell ⟨w.heap.size,1,none⟩ (.bool cl)).setCell ⟨w.heap.size,2,none⟩ (.slice A m cc)).setCell ⟨w.heap.size+1+1,0,none⟩ (.bool true)):=by
  repeat (refine Keep.setCell ?_ (Or.inl (b:=¬True) (by simp<;>omega)) _)
  exact k8'
 have kd:Keep (fun b=>b≠w.heap.size∧b≠w.heap.size+1+1) w8 ((((w8.setCell ⟨w.heap.size,0,none⟩ (.int .u32 (h:Int))).setCell ⟨w.heap.size,1,none⟩ (.bool cl)).setCell ⟨w.heap.size,2,none⟩ (.slice A m cc)).setCell ⟨w.heap.size+1+1,0,none⟩ (.bool true)):=by
  repeat (refine Keep.setCell ?_ (Or.inr (by simp)) _)
  exact Keep.refl _ _
 have hd9:=HD.out.keep kd (fun b _ hb=>by show b≠_∧b≠_;omega)
 simp only [List.setIfInBounds_toArray,List.set_cons_zero,List.set_cons_succ]at R0 R2
 go_wp2_with fail
 obtain⟨w9,hw9⟩:∃w9,w9=(((w8.setCell ⟨w.heap.size,0,none⟩ (.int .u32 (h:Int))).setCell ⟨w.heap.size,1,none⟩ (.bool cl)).setCell ⟨w.heap.size,2,none⟩ (.slice A m cc)).setCell ⟨w.heap.size+1+1,0,none⟩ (.bool true):=⟨_,rfl⟩
 rw [←hw9]at R0 R1 R2 hB9 k9 hd9 ⊢
 have HD9:=Lib.hid hd9
 clear hw9 kd HD r0 r1 r2 a0 a1 a2 b0 f0 f1 f2 g0 hd9 hB8 k8'
 have q0:=(blk_cell R0 0).trans rfl
 have q1:=(blk_cell R0 1).trans rfl
 have q2:=(blk_cell R0 2).trans rfl
 have q0:w9.cell? ⟨w.heap.size,0,none⟩=some (.int .u32 (h:Int)):=q0
 have q1:w9.cell? ⟨w.heap.size,1,none⟩=some (.bool cl):=q1
 have q2:w9.cell? ⟨w.heap.size,2,none⟩=some (.slice A m cc):=q2
 have hby:=buf_Bytes w4.heap.size r w9.drew (hB9.new ((Keep.refl _ w9).drew))
 have HBY:=Lib.hid hby
 have hrl:r.length≤1099511627776:=by
  have:=hmax
  rw [HDATA.out]at this
  simp only [List.length_cons,List.length_append]at this
  omega
 have HSZ:=Lib.hid (show w4.heap.size<w7.heap.size by omega)
 clear RD HV hcopy hd4 hB5 hB6 hB7 k3 k4 k5 k6 k06 k7 k07 k8
 refine wp_region_noPanic ?_
 go_region_law
  (first
   | (go_simp;go_at_call 27;refine HBY.out.mono ?_;rintro e w10 ⟨v10,rfl,h10,hv10⟩;have s0:=h10.1.cell (show w9.drew.cell? _=_ from q0) (show w.heap.size≠w4.heap.size by omega);have s1:=h10.1.cell (show w9.drew.cell? _=_ from q1) (show w.heap.size≠w4.heap.size by omega);have s2:=h10.1.cell (show w9.drew.cell? _=_ from q2) (show w.heap.size≠w4.heap.size by omega);have T0:=h10.1.blk (show w9.drew.heap[w.heap.size]? =_ from R0) (show w.heap.size≠w4.heap.size by omega);have T1:=h10.1.blk (show w9.drew.heap[w.heap.size+1]? =_ from R1) (show w.heap.size+1≠w4.heap.size by omega);have T2:=h10.1.blk (show w9.drew.heap[w.heap.size+1+1]? =_ from R2) (show w.heap.size+1+1≠w4.heap.size by omega))
   | (go_simp;go_at_call 24;refine(copied_is _ v10 r hv10 hrl).mono ?_;rintro e w11 ⟨v11,rfl,k11,hd11,⟨A11,c11,rfl⟩,hoff11⟩;have u0:=k11.cell s0 trivial;have u1:=k11.cell s1 trivial;have u2:=k11.cell s2 trivial;have U0:=k11.blk T0 trivial;have U1:=k11.blk T1 trivial;have U2:=k11.blk T2 trivial;have z0:=blk_free U0 0;have z1:=blk_free U0 1;have z2:=blk_free U0 2;have z3:=blk_free U1 0;have z4:=blk_free U2 0;have y3:w11.cell? ⟨w.heap.size+1,0,none⟩=some (.slice none 0 0):=(blk_cell U1 0).trans rfl;have y4:w11.cell? ⟨w.heap.size+1+1,0,none⟩=some (.bool true):=(blk_cell U2 0).trans rfl))
 all_goals refine NoPanic.normal ?_
 all_goals go_wp2
 all_goals refine leaves_cons (f:=22) (args:=#[.pointer (some ⟨w.heap.size,0,none⟩),.pointer (some ⟨w.heap.size+1,0,none⟩),.pointer (some ⟨w.heap.size+1+1,0,none⟩)]) (by simp) (by simp [go_sem]) ?_
 all_goals refine(noValue22_idle _ _ _ _).mono ?_
 all_goals rintro e u' w'' ⟨rfl,rfl,rfl⟩
 all_goals have kk:New w w11:=((k9.drew).then h10.1 (fun i hi _=>by show i≠w4.heap.size;omega)).trans k11
 all_goals have e9:=k9.size
 all_goals have hgl9:w4.heap.size<w9.drew.heap.size:=hB9.lt
 all_goals have e10:=h10.1.size
 all_goals have e78:=HSZ.out
 all_goals have hL11:=((HD9.out.keep ((Keep.refl (fun _=>True) w9).drew) (fun _ _ _=>trivial)).keep h10.1 (fun b _ hb=>by show b≠w4.heap.size;omega)).keep k11 (fun _ _ _=>trivial)
 all_goals refine⟨.tuple #[.agg #[.int .u32 (h:Int),.bool cl,.slice A m cc],.slice A11 r.length c11,.bool true],by simp [results,Tryz.results7,go_sem,u0,u1,u2,y3,y4],A,m,cc,fs,_,rfl,?_,HS.out,?_⟩
 all_goals first
  | (repeat (refine Keep.setCell ?_ (Or.inl (b:=¬True) (by simp<;>omega)) _)
     exact kk)
  | (refine Dep.mono (ok:=fun b=>w4.heap.size<b) (Dep.keep (ok':=fun b=>b≠w.heap.size∧b≠w.heap.size+1∧b≠w.heap.size+1+1) ((hL11.mono (ok':=fun b=>w4.heap.size<b) (fun b _ hb=>by omega)).and (hd11.mono (ok':=fun b=>w4.heap.size<b) (fun b _ hb=>by omega))) ?_ (fun b _ hb=>⟨by omega,by omega,by omega⟩)) (fun b _ hb=>by omega)
     repeat (refine Keep.setCell ?_ (Or.inr (by simp)) _)
     exact Keep.refl _ _)
end Go.Proofs.YtfoegolfadhmjaaGreatDoor
