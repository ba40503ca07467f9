/- A begin that is asked can be written; what was read of it is the same; ReadBegin at what Put wrote. -/
import Derived.Test.YtfoegolfadhmjaaGreatDoorZ42
import Derived.Test.YtfoegolfadhmjaaGreatDoorZ44
import Derived.Test.YtfoegolfadhmjaaGreatDoorZ48
set_option linter.all false
set_option maxRecDepth 100000
set_option maxHeartbeats 16000000
namespace Go.Proofs.YtfoegolfadhmjaaGreatDoor
open Go.RowKit Go.WideShapes
theorem noValue47_idle(p q r:Addr)(w:World):
 CallsD Tryz.prog 47 #[.pointer (some p),.pointer (some q),.pointer (some r)] .returning w fun e u' w'=>e=.returned (.tuple #[])∧u'=.returning∧w'=w:=by
 refine callsD_of_wpS Tryz.func47 rfl fun c₀ cs hu=>?_
 apply wpS_seq
 apply wpS_region
 simp [wpOpsS,go_sem,recoverD,hu,Tryz.ntmps47,Exit.thenS]
 refine wpS_cond (t:=false) (by simp [Act.eval,Array.replicate]) ?_
 simp only [Bool.false_eq_true,if_false]
 refine wpS_of_wp (wp_skip ?_)
 cases c₀
 simp_all [bodyPostS,results,Tryz.results47]
structure PropA(ps:List (V×V)):Prop where
 few:ps.length≤500
 able:∀q∈ps,AbleL [q.2]∧NSA [q.2]
 key:∀q∈ps,∃k0 o,q.1=.mk k0 0 q.1.text [] o []∧(k0=20∨k0=20∧(20:Int)=19)
 once:(ps.map fun q=>q.1.text).Nodup
theorem InfoD.props{ok:Nat→Prop}{w:World}{ps:List (V×V)}{s:Value}(h:InfoD ok w ps s)(ha:PropA ps)(PC:PairsC w):PropV w ps s:=by
 rcases h with h | ⟨m,es,clock,rfl,hb,hsz,hk,hd⟩
 ·exact .inl h
 ·obtain⟨h1,h2⟩:=hd.here
  refine .inr ⟨m,es,clock,rfl,⟨h1,hb,hsz,hk,fun j hj he=>?_,ha.once⟩,by have:=ha.few;omega,ha.key⟩
  obtain⟨a1,a2⟩:=ha.able _ (List.getElem_mem hj)
  exact valued_of PC (h2 j hj he) a1 a2 0 (by simp) (by simp)
theorem arr8{cs:Array Value}{c0 c1 c2 c3 c4 c5 c6 c7:Value}(hs:cs.size=8)(h0:cs[0]? =some c0)(h1:cs[1]? =some c1)(h2:cs[2]? =some c2)(h3:cs[3]? =some c3)(h4:cs[4]? =some c4)(h5:cs[5]? =some c5)(h6:cs[6]? =some c6)(h7:cs[7]? =some c7):cs=#[c0,c1,c2,c3,c4,c5,c6,c7]:=by
 refine Array.ext_getElem? fun i=>?_
 by_cases e:i<8
 ·match i,e with
  | 0,_=>exact h0
  | 1,_=>exact h1
  | 2,_=>exact h2
  | 3,_=>exact h3
  | 4,_=>exact h4
  | 5,_=>exact h5
  | 6,_=>exact h6
  | 7,_=>exact h7
 ·rw [Array.getElem?_eq_none (by omega),Array.getElem?_eq_none (by simp;omega)]
theorem begin_of(G:Beg)(ps:List (V×V))(g b n:Nat)(od:Int)(d lb r:List UInt8)(bs:List (List UInt8))(hbg:b≠g)(hd:Leaf (.mk 5 17 [] [] od []) d)(Hh:LHd n bs.flatten lb)(hbn:bs.length=n)(hn8:n≤8)(hlen:n≤bs.flatten.length)
 (hF:∀g b q,b≠g→∀j x,bs[j]? =some x→FldB g b q j (begG G ps j) x) (hN:∀b q j,n≤j→j<8→NullF b q j (begG G ps j))
 (w:World) (hb:w.heap[b]? =some (.cells #[.pointer none,.int .u32 0,.int .u32 0,.int .u32 0,.int .u32 0,.slice none 0 0,.slice none 0 0,.map none] 113 (0,0))) (H:Buf w g (0::(d++(lb++(bs.flatten++r))))):
 Calls Tryz.prog 48 #[.pointer (some ⟨b,0,none⟩),.pointer (some ⟨g,0,none⟩)] w fun e w'=>e=.returned .nilIface∧∃cr so sd s,w'.heap[b]? =some (.cells #[cr,.int .u32 (G.no:Int),.int .u32 (G.iw:Int),.int .u32 (G.ow:Int),.int .u32 (G.hm:Int),so,sd,s] 113 (0,0))∧Keep (fun k=>k≠g∧k≠b) w w'∧Buf w' g r∧ChanR w' cr G.rem∧Strs w' G.off so∧Strs w' G.des sd∧InfoD (fun _=>True) w' ps s:=by
 refine(begin_is (begG G ps) g b n od d lb r bs hbg hd Hh hbn hn8 hlen hF hN w hb H).mono ?_
 rintro e w' ⟨rfl,cs,h1,h2,h3,h4,h5⟩
 obtain⟨c0,e0,d0⟩:=h5 0 (by omega)
 obtain⟨c1,e1,d1⟩:=h5 1 (by omega)
 obtain⟨c2,e2,d2⟩:=h5 2 (by omega)
 obtain⟨c3,e3,d3⟩:=h5 3 (by omega)
 obtain⟨c4,e4,d4⟩:=h5 4 (by omega)
 obtain⟨c5,e5,d5⟩:=h5 5 (by omega)
 obtain⟨c6,e6,d6⟩:=h5 6 (by omega)
 obtain⟨c7,e7,d7⟩:=h5 7 (by omega)
 rw [arr8 h1 e0 e1 e2 e3 e4 e5 e6 e7,show c1=_ from d1.here,show c2=_ from d2.here,show c3=_ from d3.here,show c4=_ from d4.here]at h4
 exact⟨rfl,c0,c5,c6,c7,h4,h3,h2,d0.here,d5.here,d6.here,d7.here⟩
def set8(w:World)(p:Nat)(u0 u1 u2 u3 u4 u5 u6 u7:Value):World:=(((((((w.setCell ⟨p,0,none⟩ u0).setCell ⟨p,1,none⟩ u1).setCell ⟨p,2,none⟩ u2).setCell ⟨p,3,none⟩ u3).setCell ⟨p,4,none⟩ u4).setCell ⟨p,5,none⟩ u5).setCell ⟨p,6,none⟩ u6).setCell ⟨p,7,none⟩ u7
theorem set8_keep{ok:Nat→Prop}{W w:World}{p:Nat}(h:Keep ok W w)(hp:W.heap.size≤p∨¬ok p)(u0 u1 u2 u3 u4 u5 u6 u7:Value):Keep ok W (set8 w p u0 u1 u2 u3 u4 u5 u6 u7):=
 (((((((h.setCell (p:=⟨p,0,none⟩) hp u0).setCell (p:=⟨p,1,none⟩) hp u1).setCell (p:=⟨p,2,none⟩) hp u2).setCell (p:=⟨p,3,none⟩) hp u3).setCell (p:=⟨p,4,none⟩) hp u4).setCell (p:=⟨p,5,none⟩) hp u5).setCell (p:=⟨p,6,none⟩) hp u6).setCell (p:=⟨p,7,none⟩) hp u7
theorem set8_blk{w:World}{p:Nat}{T:TypeId}{z0 z1 z2 z3 z4 z5 z6 z7:Value}(h:w.heap[p]? =some (.cells #[z0,z1,z2,z3,z4,z5,z6,z7] T (0,0)))(u0 u1 u2 u3 u4 u5 u6 u7:Value):(set8 w p u0 u1 u2 u3 u4 u5 u6 u7).heap[p]? =some (.cells #[u0,u1,u2,u3,u4,u5,u6,u7] T (0,0)):=by
 have h8:=blk_set (blk_set (blk_set (blk_set (blk_set (blk_set (blk_set (blk_set h 0 u0) 1 u1) 2 u2) 3 u3) 4 u4) 5 u5) 6 u6) 7 u7
 simp only [List.setIfInBounds_toArray,List.set_cons_zero,List.set_cons_succ]at h8
 unfold set8
 exact h8
theorem set8_buf{w:World}{p g:Nat}{T:TypeId}{cs:Array Value}{r:List UInt8}(B:Buf w g r)(h:w.heap[p]? =some (.cells cs T (0,0)))(hT:T≠5)(hne:p≠g)(u0 u1 u2 u3 u4 u5 u6 u7:Value):Buf (set8 w p u0 u1 u2 u3 u4 u5 u6 u7) g r:=by
 have h1:=blk_set h 0 u0
 have h2:=blk_set h1 1 u1
 have h3:=blk_set h2 2 u2
 have h4:=blk_set h3 3 u3
 have h5:=blk_set h4 4 u4
 have h6:=blk_set h5 5 u5
 have h7:=blk_set h6 6 u6
 exact(((((((B.set h hT hne 0 u0).set h1 hT hne 1 u1).set h2 hT hne 2 u2).set h3 hT hne 3 u3).set h4 hT hne 4 u4).set h5 hT hne 5 u5).set h6 hT hne 6 u6).set h7 hT hne 7 u7
theorem readBegin_is(G:Beg)(ps:List (V×V))(n:Nat)(od:Int)(d lb r:List UInt8)(bs:List (List UInt8))(hd:Leaf (.mk 5 17 [] [] od []) d)(Hh:LHd n bs.flatten lb)(hbn:bs.length=n)(hn8:n≤8)(hlen:n≤bs.flatten.length)
 (hF:∀g b q,b≠g→∀j x,bs[j]? =some x→FldB g b q j (begG G ps j) x) (hN:∀b q j,n≤j→j<8→NullF b q j (begG G ps j)) (hol:G.off.length≤1000000) (hdl:G.des.length≤1000000) (hA:PropA ps)
 (w:World) (PC:∀w1,New w w1→PairsC w1) (v:Value) (hv:SlB w v (0::(d++(lb++(bs.flatten++r))))) (hmax:(0::(d++(lb++(bs.flatten++r)))).length≤1099511627776):
 Calls Tryz.prog 19 #[v] w fun e w'=>∃A1 n1 c1 A2 n2 c2 A3 n3 c3 A4 n4 c4 us qs rest,e=.returned (.tuple #[.agg #[.slice A1 n1 c1,.int .u32 (G.no:Int),.int .u32 (G.iw:Int),.int .u32 (G.ow:Int),.int .u32 (G.hm:Int),.slice A2 n2 c2,.slice A3 n3 c3,.slice A4 n4 c4],rest,.bool true])∧New w w'∧(ps.Perm qs∧Sims (flat2 qs) us∧us.length=2*ps.length)∧Dep (fun b=>w.heap.size≤b) w' (fun w=>(U16s w G.rem (.slice A1 n1 c1)∧Strs w G.off (.slice A2 n2 c2)∧Strs w G.des (.slice A3 n3 c3)∧LM w us (.slice A4 n4 c4))∧SlB w rest r):=by
 obtain⟨data,hdata⟩:∃data,data=0::(d++(lb++(bs.flatten++r))):=⟨_,rfl⟩
 have hdne:data≠[]:=by rw [hdata];simp
 rw [←hdata]at hv hmax
 have HDATA:=Lib.hid hdata
 have HA:=Lib.hid (And.intro hA (And.intro hol (And.intro hdl PC)))
 have HV:=Lib.hid hv
 have RD:=Lib.hid (fun (w:World) (g b:Nat) (hgb:b≠g) hc H=>begin_of G ps g b n od d lb r bs hgb hd Hh hbn hn8 hlen hF hN w hc H)
 obtain⟨A0,c0,hsh,_⟩:=hv
 subst hsh
 clear hd Hh hbn hn8 hlen hF hN hA hol hdl PC hdata
 have k3:=(((Keep.refl (fun _=>True) w).alloc (.cells #[.slice none 0 0,.int .u32 0,.int .u32 0,.int .u32 0,.int .u32 0,.slice none 0 0,.slice none 0 0,.slice none 0 0] 54)).alloc (.cells #[.slice none 0 0] 27)).alloc (.cells #[.bool false] 4)
 have hcopy:=copied_is _ _ _ (HV.out.new k3) hmax
 go_enter_defers Tryz.func19,Tryz.ntmps19
 go_wp2_with fail
 refine hcopy.mono ?_
 rintro e w4 ⟨v4,rfl,k4,hd4,⟨A4,c4,rfl⟩,hoff⟩
 go_wp2_with fail
 refine(newBuf_is w4 _ data hd4.here hdne hmax hoff).mono ?_
 rintro e w5 ⟨rfl,k5,hB5⟩
 have k6:=(Keep.refl (fun _=>True) w5).alloc (.cells #[.pointer none,.int .u32 0,.int .u32 0,.int .u32 0,.int .u32 0,.slice none 0 0,.slice none 0 0,.map none] 113)
 have hB6:=hB5.new k6
 have e3:=k3.size
 have e4:=k4.size
 have e5:=k5.size
 simp only [World.size_alloc]at e3 e4
 have hglt:=hB5.lt
 have herr:=RD.out _ w4.heap.size w5.heap.size (by omega) (blk_new w5 _) (by rw [←HDATA.out];exact hB6)
 have k06:=((k3.trans k4).trans k5).trans k6
 have r0:=((((k4.trans k5).trans k6)).blk (blk_alloc (blk_alloc (blk_new w (.cells #[.slice none 0 0,.int .u32 0,.int .u32 0,.int .u32 0,.int .u32 0,.slice none 0 0,.slice none 0 0,.slice none 0 0] 54)) (.cells #[.slice none 0 0] 27)) (.cells #[.bool false] 4)) trivial)
 have r1:=((((k4.trans k5).trans k6)).blk (blk_alloc (blk_new (w.alloc (.cells #[.slice none 0 0,.int .u32 0,.int .u32 0,.int .u32 0,.int .u32 0,.slice none 0 0,.slice none 0 0,.slice none 0 0] 54)) (.cells #[.slice none 0 0] 27)) (.cells #[.bool false] 4)) trivial)
 have r2:=((((k4.trans k5).trans k6)).blk (blk_new ((w.alloc (.cells #[.slice none 0 0,.int .u32 0,.int .u32 0,.int .u32 0,.int .u32 0,.slice none 0 0,.slice none 0 0,.slice none 0 0] 54)).alloc (.cells #[.slice none 0 0] 27)) (.cells #[.bool false] 4)) trivial)
 simp only [World.size_alloc]at r1 r2
 go_wp2_with fail
 refine herr.mono ?_
 rintro e w7 ⟨rfl,cr,so,sd,s,hb7,k7,hB7,i0,i1,i2,i3⟩
 have r0:=k7.blk r0 (show w.heap.size≠w4.heap.size∧w.heap.size≠w5.heap.size by omega)
 have r1:=k7.blk r1 (show w.heap.size+1≠w4.heap.size∧w.heap.size+1≠w5.heap.size by omega)
 have r2:=k7.blk r2 (show w.heap.size+1+1≠w4.heap.size∧w.heap.size+1+1≠w5.heap.size by omega)
 have k07:New w w7:=k06.then k7 (fun i hi _=>by show i≠_∧i≠_;omega)
 have hof:=ofBegin_is w5.heap.size G.no G.iw G.ow G.hm G.rem G.off G.des ps cr so sd s w7 hb7 i0 i1 i2 HA.out.2.1 HA.out.2.2.1 (fun W k=>(i3.keep k fun _ _ _=>trivial).props HA.out.1 (HA.out.2.2.2 W (k07.trans k)))
 have e7:=k7.size
 simp only [World.size_alloc]at e7
 clear i0 i1 i2 i3
 go_wp2_with fail
 refine hof.mono ?_
 rintro e w8 ⟨A1,n1,c1,A2,n2,c2,A3,n3,c3,A4,n4,c4,us,qs,rfl,k8,hs1,hs2,hs3,hdep⟩
 have r0:=k8.blk r0 trivial
 have r1:=k8.blk r1 trivial
 have r2:=k8.blk r2 trivial
 have hB8:=hB7.new k8
 have HS:=Lib.hid (And.intro hs1 (And.intro hs2 hs3))
 have HD:=Lib.hid hdep
 clear hs1 hs2 hs3 hdep hb7
 have a0:=(blk_cell r0 0).trans rfl;have f0:=blk_free r0 0;have a1:=(blk_cell r0 1).trans rfl;have f1:=blk_free r0 1;have a2:=(blk_cell r0 2).trans rfl;have f2:=blk_free r0 2;have a3:=(blk_cell r0 3).trans rfl;have f3:=blk_free r0 3;have a4:=(blk_cell r0 4).trans rfl;have f4:=blk_free r0 4;have a5:=(blk_cell r0 5).trans rfl;have f5:=blk_free r0 5;have a6:=(blk_cell r0 6).trans rfl;have f6:=blk_free r0 6;have a7:=(blk_cell r0 7).trans rfl;have f7:=blk_free r0 7
 have b0:=(blk_cell r2 0).trans rfl
 have g0:=blk_free r2 0
 have R0:=blk_far (set8_blk r0 (.slice A1 n1 c1) (.int .u32 (G.no:Int)) (.int .u32 (G.iw:Int)) (.int .u32 (G.ow:Int)) (.int .u32 (G.hm:Int)) (.slice A2 n2 c2) (.slice A3 n3 c3) (.slice A4 n4 c4)) (p:=⟨w.heap.size+1+1,0,none⟩) (show w.heap.size≠w.heap.size+1+1 by omega) (.bool true)
 have kp:Keep (fun b=>b≠w.heap.size) w8 (set8 w8 w.heap.size (.slice A1 n1 c1) (.int .u32 (G.no:Int)) (.int .u32 (G.iw:Int)) (.int .u32 (G.ow:Int)) (.int .u32 (G.hm:Int)) (.slice A2 n2 c2) (.slice A3 n3 c3) (.slice A4 n4 c4)):=set8_keep (Keep.refl _ _) (.inr (by simp)) ..
 have R1:=blk_far (kp.blk r1 (show w.heap.size+1≠w.heap.size by omega)) (p:=⟨w.heap.size+1+1,0,none⟩) (show w.heap.size+1≠w.heap.size+1+1 by omega) (.bool true)
 have R2':=kp.blk r2 (show w.heap.size+1+1≠w.heap.size by omega)
 have R2:=blk_set R2' 0 (.bool true)
 have hB9:=(set8_buf hB8 r0 (by decide) (show w.heap.size≠w4.heap.size by omega) (.slice A1 n1 c1) (.int .u32 (G.no:Int)) (.int .u32 (G.iw:Int)) (.int .u32 (G.ow:Int)) (.int .u32 (G.hm:Int)) (.slice A2 n2 c2) (.slice A3 n3 c3) (.slice A4 n4 c4)).set R2' (by decide) (show w.heap.size+1+1≠w4.heap.size by omega) 0 (.bool true)
 have k8':=k07.trans k8
 have k9:New w ((set8 w8 w.heap.size (.slice A1 n1 c1) (.int .u32 (G.no:Int)) (.int .u32 (G.iw:Int)) (.int .u32 (G.ow:Int)) (.int .u32 (G.hm:Int)) (.slice A2 n2 c2) (.slice A3 n3 c3) (.slice A4 n4 c4)).setCell ⟨w.heap.size+1+1,0,none⟩ (.bool true)):=(set8_keep k8' (.inl (Nat.le_refl _)) ..).setCell (.inl (by show w.heap.size≤w.heap.size+1+1;omega)) _
 have kd:Keep (fun b=>b≠w.heap.size∧b≠w.heap.size+1+1) w8 ((set8 w8 w.heap.size (.slice A1 n1 c1) (.int .u32 (G.no:Int)) (.int .u32 (G.iw:Int)) (.int .u32 (G.ow:Int)) (.int .u32 (G.hm:Int)) (.slice A2 n2 c2) (.slice A3 n3 c3) (.slice A4 n4 c4)).setCell ⟨w.heap.size+1+1,0,none⟩ (.bool true)):=(set8_keep (Keep.refl _ _) (.inr (by simp)) ..).setCell (.inr (by simp)) _
 have hd9:=HD.out.keep kd (fun b _ hb=>by show b≠_∧b≠_;omega)
 unfold set8 at R0 R1 R2 hB9 k9 hd9
 simp only [List.setIfInBounds_toArray,List.set_cons_zero,List.set_cons_succ]at R2
 go_wp2_with fail
 obtain⟨w9,hw9⟩:∃w9,w9=(((((((((w8.setCell ⟨w.heap.size,0,none⟩ (.slice A1 n1 c1)).setCell ⟨w.heap.size,1,none⟩ (.int .u32 (G.no:Int))).setCell ⟨w.heap.size,2,none⟩ (.int .u32 (G.iw:Int))).setCell ⟨w.heap.size,3,none⟩ (.int .u32 (G.ow:Int))).setCell ⟨w.heap.size,4,none⟩ (.int .u32 (G.hm:Int))).setCell ⟨w.heap.size,5,none⟩ (.slice A2 n2 c2)).setCell ⟨w.heap.size,6,none⟩ (.slice A3 n3 c3)).setCell ⟨w.heap.size,7,none⟩ (.slice A4 n4 c4)).setCell ⟨w.heap.size+1+1,0,none⟩ (.bool true)):=⟨_,rfl⟩
 rw [←hw9]at R0 R1 R2 hB9 k9 hd9 ⊢
 have HD9:=Lib.hid hd9
 clear hw9 kd kp HD r0 r1 r2 R2' a0 f0 a1 f1 a2 f2 a3 f3 a4 f4 a5 f5 a6 f6 a7 f7 b0 g0 hd9 hB8 k8'
 have q0:w9.cell? ⟨w.heap.size,0,none⟩=some (.slice A1 n1 c1):=(blk_cell R0 0).trans rfl;have q1:w9.cell? ⟨w.heap.size,1,none⟩=some (.int .u32 (G.no:Int)):=(blk_cell R0 1).trans rfl;have q2:w9.cell? ⟨w.heap.size,2,none⟩=some (.int .u32 (G.iw:Int)):=(blk_cell R0 2).trans rfl;have q3:w9.cell? ⟨w.heap.size,3,none⟩=some (.int .u32 (G.ow:Int)):=(blk_cell R0 3).trans rfl;have q4:w9.cell? ⟨w.heap.size,4,none⟩=some (.int .u32 (G.hm:Int)):=(blk_cell R0 4).trans rfl;have q5:w9.cell? ⟨w.heap.size,5,none⟩=some (.slice A2 n2 c2):=(blk_cell R0 5).trans rfl;have q6:w9.cell? ⟨w.heap.size,6,none⟩=some (.slice A3 n3 c3):=(blk_cell R0 6).trans rfl;have q7:w9.cell? ⟨w.heap.size,7,none⟩=some (.slice A4 n4 c4):=(blk_cell R0 7).trans rfl
 have hby:=buf_Bytes w4.heap.size r w9.drew (hB9.new ((Keep.refl _ w9).drew))
 have HBY:=Lib.hid hby
 have hrl:r.length≤1099511627776:=by
  have:=hmax
  rw [HDATA.out]at this
  simp only [List.length_cons,List.length_append]at this
  omega
 have HSZ:=Lib.hid (show w4.heap.size<w7.heap.size by omega)
 clear RD HV hcopy hd4 hB5 hB6 hB7 k3 k4 k5 k6 k06 k7 k07 k8
 refine wp_region_noPanic ?_
 go_region_law
  (first
   | (go_simp;go_at_call 27;refine HBY.out.mono ?_;rintro e w10 ⟨v10,rfl,h10,hv10⟩;have s0:=h10.1.cell (show w9.drew.cell? _=_ from q0) (show w.heap.size≠w4.heap.size by omega);have s1:=h10.1.cell (show w9.drew.cell? _=_ from q1) (show w.heap.size≠w4.heap.size by omega);have s2:=h10.1.cell (show w9.drew.cell? _=_ from q2) (show w.heap.size≠w4.heap.size by omega);have s3:=h10.1.cell (show w9.drew.cell? _=_ from q3) (show w.heap.size≠w4.heap.size by omega);have s4:=h10.1.cell (show w9.drew.cell? _=_ from q4) (show w.heap.size≠w4.heap.size by omega);have s5:=h10.1.cell (show w9.drew.cell? _=_ from q5) (show w.heap.size≠w4.heap.size by omega);have s6:=h10.1.cell (show w9.drew.cell? _=_ from q6) (show w.heap.size≠w4.heap.size by omega);have s7:=h10.1.cell (show w9.drew.cell? _=_ from q7) (show w.heap.size≠w4.heap.size by omega);have T0:=h10.1.blk (show w9.drew.heap[w.heap.size]? =_ from R0) (show w.heap.size≠w4.heap.size by omega);have T1:=h10.1.blk (show w9.drew.heap[w.heap.size+1]? =_ from R1) (show w.heap.size+1≠w4.heap.size by omega);have T2:=h10.1.blk (show w9.drew.heap[w.heap.size+1+1]? =_ from R2) (show w.heap.size+1+1≠w4.heap.size by omega))
   | (go_simp;go_at_call 24;refine(copied_is _ v10 r hv10 hrl).mono ?_;rintro e w11 ⟨v11,rfl,k11,hd11,⟨A11,c11,rfl⟩,hoff11⟩;have u0:=k11.cell s0 trivial;have u1:=k11.cell s1 trivial;have u2:=k11.cell s2 trivial;have u3:=k11.cell s3 trivial;have u4:=k11.cell s4 trivial;have u5:=k11.cell s5 trivial;have u6:=k11.cell s6 trivial;have u7:=k11.cell s7 trivial;have U0:=k11.blk T0 trivial;have U1:=k11.blk T1 trivial;have U2:=k11.blk T2 trivial;have z0:=blk_free U0 0;have z1:=blk_free U0 1;have z2:=blk_free U0 2;have z3:=blk_free U0 3;have z4:=blk_free U0 4;have z5:=blk_free U0 5;have z6:=blk_free U0 6;have z7:=blk_free U0 7;have z8:=blk_free U1 0;have z9:=blk_free U2 0;have y3:w11.cell? ⟨w.heap.size+1,0,none⟩=some (.slice none 0 0):=(blk_cell U1 0).trans rfl;have y4:w11.cell? ⟨w.heap.size+1+1,0,none⟩=some (.bool true):=(blk_cell U2 0).trans rfl))
 all_goals refine NoPanic.normal ?_
 all_goals go_wp2
 all_goals refine leaves_cons (f:=47) (args:=#[.pointer (some ⟨w.heap.size,0,none⟩),.pointer (some ⟨w.heap.size+1,0,none⟩),.pointer (some ⟨w.heap.size+1+1,0,none⟩)]) (by simp) (by simp [go_sem]) ?_
 all_goals refine(noValue47_idle _ _ _ _).mono ?_
 all_goals rintro e u' w'' ⟨rfl,rfl,rfl⟩
 all_goals have kk:New w w11:=((k9.drew).then h10.1 (fun i hi _=>by show i≠w4.heap.size;omega)).trans k11
 all_goals have e9:=k9.size
 all_goals have hgl9:w4.heap.size<w9.drew.heap.size:=hB9.lt
 all_goals have e10:=h10.1.size
 all_goals have e78:=HSZ.out
 all_goals have hL11:=((HD9.out.keep ((Keep.refl (fun _=>True) w9).drew) (fun _ _ _=>trivial)).keep h10.1 (fun b _ hb=>by show b≠w4.heap.size;omega)).keep k11 (fun _ _ _=>trivial)
 all_goals refine⟨.tuple #[.agg #[.slice A1 n1 c1,.int .u32 (G.no:Int),.int .u32 (G.iw:Int),.int .u32 (G.ow:Int),.int .u32 (G.hm:Int),.slice A2 n2 c2,.slice A3 n3 c3,.slice A4 n4 c4],.slice A11 r.length c11,.bool true],by simp [results,Tryz.results19,go_sem,u0,u1,u2,u3,u4,u5,u6,u7,y3,y4],A1,n1,c1,A2,n2,c2,A3,n3,c3,A4,n4,c4,us,qs,_,rfl,?_,HS.out,?_⟩
 all_goals first
  | (repeat (refine Keep.setCell ?_ (Or.inl (b:=¬True) (by simp<;>omega)) _)
     exact kk)
  | (refine Dep.mono (ok:=fun b=>w4.heap.size<b) (Dep.keep (ok':=fun b=>b≠w.heap.size∧b≠w.heap.size+1∧b≠w.heap.size+1+1) ((hL11.mono (ok':=fun b=>w4.heap.size<b) (fun b _ hb=>by omega)).and (hd11.mono (ok':=fun b=>w4.heap.size<b) (fun b _ hb=>by omega))) ?_ (fun b _ hb=>⟨by omega,by omega,by omega⟩)) (fun b _ hb=>by omega)
     repeat (refine Keep.setCell ?_ (Or.inr (by simp)) _)
     exact Keep.refl _ _)
theorem put_able{v d u:V}(ha:AbleL [v])(h:Put1 (v,d) u):AbleL [u]∧wt u≤wt v+12:=by
 rcases h with(rfl | ⟨h1,h2,h3⟩) | ⟨rfl,-⟩
 ·exact⟨ha,by omega⟩
 ·cases ha with
  | leaf h _=>cases h<;>simp [V.kind]at h1
  | list=>simp [V.kind]at h1
  | map=>simp [V.kind]at h1
  | arr hk hm hne hs=>
    have h2:_=[u]:=h2
    subst h2
    exact⟨.leaf (hk.all u (List.mem_cons_self ..)).2.1 .nil,by simp only [wt,wts];omega⟩
 ·exact⟨.leaf (.null 0) .nil,by simp only [nul,wt,wts,List.length_nil];omega⟩
theorem wts_pts:∀(ks:List V) (fs:List (V×V)),ks.length≤fs.length→(∀j (h1:j<ks.length) (h2:j<fs.length),wt ks[j]≤wt fs[j].1+12)→wts ks≤wts (fs.map (·.1))+12*fs.length
 | [],fs,_,_=>by simp [wts]
 | k::ks,[],h,_=>by simp at h
 | k::ks,f::fs,h,hp=>by
   have h0:=hp 0 (by simp) (by simp)
   have:=wts_pts ks fs (by simpa using h) fun j h1 h2=>hp (j+1) (by simpa using h1) (by simpa using h2)
   simp only [wts,List.map_cons,List.length_cons,List.getElem_cons_zero]at h0 this ⊢
   omega
theorem fields_able{c:Nat}{fs:List (V×V)}{ks:List V}{od:Int}(hc:c<18446744073709551616)(hall:∀f∈fs,AbleL [f.1])(hk:PutK fs ks)(hl:fs.length≤1000)(hw:wts (fs.map (·.1))≤49000000):PutOK (.mk 21 0 [] ks 0 [.mk 5 c [] [] od []])∧wt (.mk 21 0 [] ks 0 [.mk 5 c [] [] od []])≤50000000:=by
 have h1:∀j (h1:j<ks.length) (h2:j<fs.length),AbleL [ks[j]]∧wt ks[j]≤wt fs[j].1+12:=fun j h1 h2=>put_able (d:=fs[j].2) (hall _ (List.getElem_mem h2)) (hk.each j h1 h2)
 have h2:=wts_pts ks fs hk.le fun j a b=>(h1 j a b).2
 have h3:AbleW ks:=by
  have:=AbleW.takeN (l:=ks) (fun v hv=>by
   obtain⟨j,hj,rfl⟩:=List.getElem_of_mem hv
   exact(h1 j hj (by have:=hk.le;omega)).1) ks.length
  rwa [List.take_length]at this
 have h4:wt (.mk 21 0 [] ks 0 [.mk 5 c [] [] od []])≤50000000:=by
  simp only [wt,wts,List.length_nil]
  omega
 exact⟨put_ok _ _ (Nat.le_refl _) (.comp hc h3 (by have:=hk.le;omega) .nil) (by omega),h4⟩
theorem FitL.kidsOf{l:List V}(h:FitL l):∀v∈l,FitL v.kids:=by
 induction h with
 | nil=>intro v hv;simp at hv
 | cons h hk hd hs _ _ ih=>
   intro v hv
   rcases List.mem_cons.1 hv with rfl | hv
   ·exact hk
   ·exact ih v hv
theorem cnt_in{l:List V}:∀v∈l,cnt v≤cnts l:=by
 induction l with
 | nil=>intro v hv;simp at hv
 | cons a l ih=>
   intro v hv
   simp only [cnts]
   rcases List.mem_cons.1 hv with rfl | hv
   ·omega
   ·have:=ih v hv;omega
theorem sym_able{ts:List (List UInt8)}(hne:∀t∈ts,t≠[])(h1:FitC (symF ts).kind (symF ts).num (symF ts).text (symF ts).kids (symF ts).desc)(h2:FitL (symF ts).kids):AbleL [symF ts]∧ts.length≤1000:=by
 by_cases e:ts=[]
 ·subst e
  exact⟨.leaf (.null 0) .nil,by simp⟩
 ·have eF:symF ts=.mk 23 0 [] (symK ts) 0 []:=if_neg e
  rw [eF]at h1 h2 ⊢
  have hl:(symK ts).length=ts.length:=by simp [symK]
  have hlen:(symK ts).length≤1000:=h1.few
  refine⟨.arr (k:=20) ⟨by omega,fun v hv=>?_⟩ hlen (fun h=>e (by rw [←symK_text ts,h];rfl)) .nil,by omega⟩
  obtain⟨t,ht,rfl⟩:=List.mem_map.1 hv
  have hf:=h2.mem _ hv
  exact⟨rfl,.sym t 0 hf.short (hf.txt (.inr rfl)),fun _=>hne t ht⟩
structure BegOk(G:Beg)(ps:List (V×V)):Prop where
 n:BegN G
 a:BegA G ps
 p:PropA ps
 able:∀f∈begF G,AbleL [f.1]
 wide:wts ((begF G).map (·.1))≤49000000
 off:G.off.length≤1000
 des:G.des.length≤1000
 cnt:∀f∈begF G,cnt f.1≤1000
 tidy:Tidy (flat2 ps)
theorem begOk{G:Beg}(hn:BegN G)(hr:G.rem.length≤1)(ho:∀t∈G.off,t≠[])(hd:∀t∈G.des,t≠[])(hM:MapA (fun k=>k=20) G.props)(hF:FitL [.mk 21 0 [] ((begF G).map (·.1)) 0 [.mk 5 17 [] [] 0 []]])(hc:cnt (.mk 21 0 [] ((begF G).map (·.1)) 0 [.mk 5 17 [] [] 0 []])≤300):∃ps,BegOk G ps:=by
 have htd:=mapA_tidy hM
 obtain⟨ps,e,hA,h2,ok,hs,hk⟩:=hM
 have hT:∀q∈ps,TextK q.1.kind:=fun q hq=>.inr (hk q hq)
 have hp:=keys_plain hA hT
 have hnum:∀q∈ps,q.1.num=0:=fun q hq=>by obtain⟨o,e⟩:=hp q hq;rw [e];rfl
 have hkid:FitL ((begF G).map (·.1)):=by
  cases hF with
  | cons _ h _ _=>exact h
 have hsz:=hkid.short
 simp only [cnt,cnts]at hc
 have q5:=sym_able ho (hkid.mem (symF G.off) (by simp [begF])) (hkid.kidsOf (symF G.off) (by simp [begF]))
 have q6:=sym_able hd (hkid.mem (symF G.des) (by simp [begF])) (hkid.kidsOf (symF G.des) (by simp [begF]))
 refine⟨ps,hn,⟨hr,e,hk,hnum⟩,⟨by omega,fun q hq=>⟨AbleL.mem.1 hA q.2 (flat2_mem.2 ⟨q,hq,.inr rfl⟩),NSA.mem.1 hs q.2 (flat2_mem.2 ⟨q,hq,.inr rfl⟩)⟩,fun q hq=>?_,texts_once ok hT hnum⟩,fun f hf=>?_,by omega,q5.2,q6.2,fun f hf=>?_,by rw [e]at htd;exact htd⟩
 ·obtain⟨o,e⟩:=hp q hq
  have:=hk q hq
  exact⟨20,o,by rw [this]at e;exact e,.inl rfl⟩
 ·simp only [begF,List.mem_cons,List.mem_nil_iff,or_false]at hf
  rcases hf with rfl | rfl | rfl | rfl | rfl | rfl | rfl | rfl
  ·show AbleL [mayF G.rem]
   have:=hn.rem
   generalize G.rem=l at this
   cases l with
   | nil=>exact .leaf (.null 0) .nil
   | cons n r=>exact .leaf (.u16 n 0 (this n (List.mem_cons_self ..))) .nil
  ·exact .leaf (.u32 _ 0 hn.no) .nil
  ·exact .leaf (.u32 _ 0 hn.iw) .nil
  ·exact .leaf (.u32 _ 0 hn.ow) .nil
  ·exact .leaf (.u32 _ 0 hn.hm) .nil
  ·exact q5.1
  ·exact q6.1
  ·show AbleL [mpF G.props]
   unfold mpF
   split
   ·exact .leaf (.null 0) .nil
   ·rw [e]
    exact .map hA h2 ok .nil
 ·have:cnt f.1≤cnts ((begF G).map (·.1)):=cnt_in f.1 (List.mem_map.2 ⟨f,hf,rfl⟩)
  omega
theorem fs_syms(ts:List (List UInt8)):FS nul (symF ts) (symF ts):=by
 by_cases e:ts=[]
 ·subst e
  exact fs_nul tidy_nul sims_nul rfl rfl
 ·have eF:symF ts=.mk 23 0 [] (symK ts) 0 []:=if_neg e
  have hk:(symF ts).kind≠0:=by rw [eF];simp [V.kind]
  have hT:∀l:List (List UInt8),Tidy (symK l):=by
   intro l
   induction l with
   | nil=>exact .nil
   | cons t l ih=>exact .cons (fun _=>rfl) .nil ih
  have ht:Tidy [symF ts]:=by rw [eF];exact .cons (fun h=>absurd h (by omega)) (hT ts) .nil
  have hv:∀l:List (List UInt8),sameVs (usualVs (symK l)) (usualVs (symK l))=true:=by
   intro l
   induction l with
   | nil=>rfl
   | cons t l ih=>
     have e1:symK (t::l)=.mk 20 0 t [] 0 []::symK l:=rfl
     rw [e1]
     simp only [usualVs,sameVs,ih,Bool.and_true]
     rw [usual_leaf _ _ _ (by omega),if_pos rfl]
     exact sameV_leaf ..
  refine⟨by rw [dfl_nul _ hk];exact ht,by rw [dfl_nul _ hk];exact ht,?_⟩
  rw [dfl_nul _ hk,eF]
  match ts,e with
  | [t],_=>simp [symK,usualV,sameL,sameV,sameVs,sameD]
  | t::u::r,_=>
    have h1:usualV (.mk 23 0 [] (symK (t::u::r)) 0 [])=.mk 23 0 [] (usualVs (symK (t::u::r))) 0 []:=by simp [symK,usualV]
    rw [h1]
    have:=hv (t::u::r)
    simp [sameL,sameV,sameD,this]
theorem fs_may(l:List Nat):FS nul (mayF l) (mayF l):=by
 cases l with
 | nil=>exact fs_nul tidy_nul sims_nul rfl rfl
 | cons n r=>exact fs_leaf _ n [] 0 0 (by omega) (by omega) (fun h=>absurd h (by omega))
theorem beg_same{G:Beg}{ps qs:List (V×V)}{us:List V}(hO:BegOk G ps)(hp:ps.Perm qs)(hs:Sims (flat2 qs) us):
 ∀j (hj:j<(begF G).length),SameC (begF G)[j] (atN ((begF G).map (·.1)) j) (atN ((begF { G with props:=us }).map (·.1)) j):=by
 intro j hj
 have h8:j<8:=hj
 rw [atN_map hj,atN_map (fs:=begF { G with props:=us }) hj]
 have c0:=hO.cnt _ (List.getElem_mem hj)
 match j,h8 with
 | 0,_=>exact sameC_of (fs_may _) (by omega) (Nat.le_trans c0 (by omega)) (by simp [begF,nul,cnt,cnts])
 | 1,_=>exact sameC_of (fs_leaf _ _ [] 0 0 (by omega) (by omega) (fun h=>absurd h (by omega))) (by omega) (Nat.le_trans c0 (by omega)) (by simp [begF,nul,cnt,cnts])
 | 2,_=>exact sameC_of (fs_leaf _ _ [] 0 0 (by omega) (by omega) (fun h=>absurd h (by omega))) (by omega) (Nat.le_trans c0 (by omega)) (by simp [begF,nul,cnt,cnts])
 | 3,_=>exact sameC_of (fs_leaf _ _ [] 0 0 (by omega) (by omega) (fun h=>absurd h (by omega))) (by omega) (Nat.le_trans c0 (by omega)) (by simp [begF,nul,cnt,cnts])
 | 4,_=>exact sameC_of (fs_leaf _ _ [] 0 0 (by omega) (by omega) (fun h=>absurd h (by omega))) (by omega) (Nat.le_trans c0 (by omega)) (by simp [begF,cnt,cnts])
 | 5,_=>exact sameC_of (fs_syms _) (by omega) (Nat.le_trans c0 (by omega)) (by simp [begF,nul,cnt,cnts])
 | 6,_=>exact sameC_of (fs_syms _) (by omega) (Nat.le_trans c0 (by omega)) (by simp [begF,nul,cnt,cnts])
 | 7,_=>
   have e:=hO.a.props
   have hf:FS nul (mpF G.props) (mpF us):=by
    rw [e]
    exact fs_map hp (fun q hq=>by have:=hO.a.key q hq;omega) hO.tidy hs
   have c1:cnt (mpF us)≤1000:=by
    have c2:cnt (mpF G.props)≤1000:=c0
    rw [e]at c2
    have c3:=hs.cnts
    rw [←cnts_perm2 hp]at c3
    have c4:1+cnts us≤1000∨us=[]:=by
     unfold mpF at c2
     split at c2
     ·rename_i e2
      obtain rfl:=flat2_nil e2
      obtain rfl:=hp.nil_eq
      cases hs
      exact .inr rfl
     ·simp only [cnt,cnts]at c2
      exact .inl (by omega)
    rcases c4 with c4 | rfl
    ·have:=cnt_mp us;omega
    ·simp [mpF,nul,cnt,cnts]
   exact sameC_of (f:=(begF G)[7]) hf (by omega) (by show cnt (mpF us)≤1000000;omega) (by simp [begF,nul,cnt,cnts])
theorem begBack{G:Beg}{ps:List (V×V)}{od:Int}(hO:BegOk G ps){ks:List V}{b r:List UInt8}(hk:PutK (begF G) ks)(he:EncW [.mk 21 0 [] ks 0 [.mk 5 17 [] [] od []]] b)(w:World)(VC:Vld w)(v:Value)(hv:SlB w v (b++r))(hmax:(b++r).length≤1099511627776):
 Calls Tryz.prog 19 #[v] w fun e w'=>∃A1 n1 c1 A2 n2 c2 A3 n3 c3 A4 n4 c4 us qs rest,e=.returned (.tuple #[.agg #[.slice A1 n1 c1,.int .u32 (G.no:Int),.int .u32 (G.iw:Int),.int .u32 (G.ow:Int),.int .u32 (G.hm:Int),.slice A2 n2 c2,.slice A3 n3 c3,.slice A4 n4 c4],rest,.bool true])∧New w w'∧(ps.Perm qs∧Sims (flat2 qs) us)∧(U16s w' G.rem (.slice A1 n1 c1)∧Strs w' G.off (.slice A2 n2 c2)∧Strs w' G.des (.slice A3 n3 c3)∧LM w' us (.slice A4 n4 c4))∧SlB w' rest r:=by
 obtain⟨n,d,lb,bs,rfl,hd,hh,hbn,hn8,hlen,hF,hN⟩:=begin_law hO.a hk he
 have e:(0::(d++(lb++bs.flatten)))++r=0::(d++(lb++(bs.flatten++r))):=by simp
 rw [e]at hv hmax
 have h1:=hO.off
 have h2:=hO.des
 refine(readBegin_is G ps n od d lb r bs hd hh hbn hn8 hlen hF hN (by omega) (by omega) hO.p w (fun w1 k1=>pairsC_of (VC.new k1)) v hv hmax).mono ?_
 rintro e w' ⟨A1,n1,c1,A2,n2,c2,A3,n3,c3,A4,n4,c4,us,qs,rest,rfl,k,hs,hdep⟩
 exact⟨A1,n1,c1,A2,n2,c2,A3,n3,c3,A4,n4,c4,us,qs,rest,rfl,k,⟨hs.1,hs.2.1⟩,hdep.here.1,hdep.here.2⟩
end Go.Proofs.YtfoegolfadhmjaaGreatDoor
