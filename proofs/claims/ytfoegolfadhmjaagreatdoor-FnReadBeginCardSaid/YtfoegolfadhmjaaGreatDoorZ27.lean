/- spec.Composite.Put. -/
import Derived.Test.YtfoegolfadhmjaaGreatDoorZ26
set_option linter.all false
set_option maxRecDepth 100000
set_option maxHeartbeats 16000000
namespace Go.Proofs.YtfoegolfadhmjaaGreatDoor
open Go.RowKit Go.WideShapes
theorem own_set1{w:World}{base n g cap q:Nat}{xs:List Value}(h:w.ownsRow base 78 6 (.slice (some ⟨g,0,none⟩) n cap) n xs)(hq:q<xs.length)(b:Value):(w.setCell ⟨g,q,none⟩ b).ownsRow base 78 6 (.slice (some ⟨g,0,none⟩) n cap) n (xs.set q b):=by
 obtain⟨h1,h2⟩:=h
 refine⟨by simpa using h1,.inr ?_⟩
 rcases h2 with⟨e,_⟩ | ⟨g',cap',cur,hv,hg,hb,hn,hc,hs,ht⟩
 ·cases e
 ·cases hv
  refine⟨g,cap,cur.setIfInBounds q b,rfl,hg,blk_set hb q b,hn,hc,by simpa using hs,?_⟩
  rw [Array.toList_setIfInBounds,←ht,List.take_set]
theorem own_at{w:World}{base n g cap:Nat}{xs:List Value}(h:w.ownsRow base 78 6 (.slice (some ⟨g,0,none⟩) n cap) n xs)(q:Nat){u:Value}(hq:xs[q]? =some u):w.cell? ⟨g,q,none⟩=some u∧w.frozen? ⟨g,q,none⟩=false:=by
 obtain⟨h1,h2⟩:=h
 rcases h2 with⟨e,_⟩ | ⟨g',cap',cur,hv,hg,hb,hn,hc,hs,ht⟩
 ·cases e
 ·cases hv
  refine⟨?_,blk_free hb q⟩
  have hlt:q<n*6:=by rw [←h1];exact(List.getElem?_eq_some_iff.1 hq).1
  rw [←ht,List.getElem?_take_of_lt hlt,Array.getElem?_toList]at hq
  rw [blk_cell hb]
  exact hq
theorem own_cap{w:World}{base n g cap:Nat}{xs:List Value}(h:w.ownsRow base 78 6 (.slice (some ⟨g,0,none⟩) n cap) n xs):n≤cap∧cap≤maxLen:=by
 rcases h.2 with⟨e,_⟩ | ⟨g',cap',cur,hv,hg,hb,hn,hc,_⟩
 ·cases e
 ·cases hv;exact⟨hn,hc⟩
theorem own_set6{w:World}{base n g cap j:Nat}{cd cr:List Value}{a0 a1 a2 a3 a4 a5:Value}(h:w.ownsRow base 78 6 (.slice (some ⟨g,0,none⟩) n cap) n (cd++a0::a1::a2::a3::a4::a5::cr))(hj:cd.length=j*6)(b0 b1 b2 b3 b4 b5:Value):
 ((((((w.setCell ⟨g,j*6,none⟩ b0).setCell ⟨g,j*6+1,none⟩ b1).setCell ⟨g,j*6+2,none⟩ b2).setCell ⟨g,j*6+3,none⟩ b3).setCell ⟨g,j*6+4,none⟩ b4).setCell ⟨g,j*6+5,none⟩ b5).ownsRow base 78 6 (.slice (some ⟨g,0,none⟩) n cap) n (cd++b0::b1::b2::b3::b4::b5::cr):=by
 have s0:=own_set1 h (q:=j*6) (by simp;omega) b0
 have s1:=own_set1 s0 (q:=j*6+1) (by simp;omega) b1
 have s2:=own_set1 s1 (q:=j*6+2) (by simp;omega) b2
 have s3:=own_set1 s2 (q:=j*6+3) (by simp;omega) b3
 have s4:=own_set1 s3 (q:=j*6+4) (by simp;omega) b4
 have s5:=own_set1 s4 (q:=j*6+5) (by simp;omega) b5
 have e:∀k b,(cd++a0::a1::a2::a3::a4::a5::cr).set (j*6+k) b=cd++(a0::a1::a2::a3::a4::a5::cr).set k b:=fun k b=>by
  rw [List.set_append_right _ _ (by omega),hj,Nat.add_sub_cancel_left]
 have e':∀(l:List Value) k b,(cd++l).set (j*6+k) b=cd++l.set k b:=fun l k b=>by
  rw [List.set_append_right _ _ (by omega),hj,Nat.add_sub_cancel_left]
 have e0:∀(l:List Value) b,(cd++l).set (j*6) b=cd++l.set 0 b:=fun l b=>e' l 0 b
 simpa only [e0,e',List.set_cons_zero,List.set_cons_succ]using s5
theorem own_six{w:World}{base n g cap j:Nat}{cd cr:List Value}{a0 a1 a2 a3 a4 a5:Value}(h:w.ownsRow base 78 6 (.slice (some ⟨g,0,none⟩) n cap) n (cd++a0::a1::a2::a3::a4::a5::cr))(hj:cd.length=j*6):
 (w.cell? ⟨g,j*6,none⟩=some a0∧w.cell? ⟨g,j*6+1,none⟩=some a1∧w.cell? ⟨g,j*6+2,none⟩=some a2∧w.cell? ⟨g,j*6+3,none⟩=some a3∧w.cell? ⟨g,j*6+4,none⟩=some a4∧w.cell? ⟨g,j*6+5,none⟩=some a5)∧
 (w.frozen? ⟨g,j*6,none⟩=false∧w.frozen? ⟨g,j*6+1,none⟩=false∧w.frozen? ⟨g,j*6+2,none⟩=false∧w.frozen? ⟨g,j*6+3,none⟩=false∧w.frozen? ⟨g,j*6+4,none⟩=false∧w.frozen? ⟨g,j*6+5,none⟩=false):=by
 have e:∀k,(cd++a0::a1::a2::a3::a4::a5::cr)[j*6+k]? =(a0::a1::a2::a3::a4::a5::cr)[k]? :=fun k=>by
  rw [List.getElem?_append_right (by omega),hj,Nat.add_sub_cancel_left]
 have g0:=own_at h (j*6) (e 0)
 have g1:=own_at h (j*6+1) (e 1)
 have g2:=own_at h (j*6+2) (e 2)
 have g3:=own_at h (j*6+3) (e 3)
 have g4:=own_at h (j*6+4) (e 4)
 have g5:=own_at h (j*6+5) (e 5)
 exact⟨⟨g0.1,g1.1,g2.1,g3.1,g4.1,g5.1⟩,g0.2,g1.2,g2.2,g3.2,g4.2,g5.2⟩
theorem Mem.head6{w:World}{v:V}{l:List V}{cells:List Value}(h:Mem w (v::l) cells):∃a0 a1 a2 a3 a4 a5 cr,cells=a0::a1::a2::a3::a4::a5::cr∧Mem w [v] [a0,a1,a2,a3,a4,a5]∧Mem w l cr:=by
 cases h with
 | cons hn hk hkm hd hdm hs=>exact⟨_,_,_,_,_,_,_,rfl,.cons hn hk hkm hd hdm .nil,hs⟩
def PutD(fs:List (V×V))(done:List V):Prop:=∀i (h1:i<done.length) (h2:i<fs.length),Put1 fs[i] done[i]
def Put0(f:V×V)(x:V):Prop:=x=f.1∨x=nul∧f.1.kind≠0∧f.2.kind≠0∧sameV f.1 f.2=true
theorem Put0.within{f:V×V}{x u:V}(h:Put0 f x)(hi:Inside x u):Put1 f u:=by
 rcases h with rfl | ⟨rfl,h⟩
 ·exact .inl hi
 ·rcases hi with rfl | ⟨h23,_⟩
  ·exact .inr ⟨rfl,h⟩
  ·exact absurd h23 (by simp [nul,V.kind])
theorem PutD.step{fs:List (V×V)}{done:List V}(h:PutD fs done)(hj:done.length<fs.length){u:V}(hu:Put1 fs[done.length] u):PutD fs (done++[u]):=by
 intro i h1 h2
 rcases Nat.lt_or_ge i done.length with hlt | hge
 ·rw [List.getElem_append_left hlt];exact h i hlt h2
 ·have:i=done.length:=by simp at h1;omega
  subst this
  rw [List.getElem_append_right (Nat.le_refl _)]
  simpa using hu
def PutJ(W:World)(f p d g cap n m c:Nat)(short:Bool)(L:List Value)(wr:World):Prop:=
 Keep (fun b=>b≠f) W wr∧FormsAt wr f short∧wr.heap[p]? =some (.cells #[.int .i64 21,.int .u64 0,.string ⟨#[]⟩,.slice (some ⟨g,0,none⟩) m cap,.int .i64 0,.slice (some ⟨d,0,none⟩) 1 1] 78 (0,0))∧wr.heap[d]? =some (.cells #[.int .i64 5,.int .u64 (c:Int),.string ⟨#[]⟩,.slice none 0 0,.int .i64 0,.slice none 0 0] 78 (0,0))∧wr.ownsRow (d+2) 78 6 (.slice (some ⟨g,0,none⟩) n cap) n L
theorem PutJ.step{W:World}{f p d g cap n m c:Nat}{short:Bool}{L:List Value}{wr w':World}(h:PutJ W f p d g cap n m c short L wr)(k:Keep (fun b=>b≠f) wr w')(hf:FormsAt w' f short)(h1:f<d)(h2:d<p):PutJ W f p d g cap n m c short L w':=by
 obtain⟨q1,q2,q3,q4,q5⟩:=h
 exact⟨q1.trans k,hf,k.blk q3 (show p≠f by omega),k.blk q4 (show d≠f by omega),own_near q5 (k.mono fun b _ hb=>by show b≠f;omega)⟩
theorem PutJ.new{W:World}{f p d g cap n m c:Nat}{short:Bool}{L:List Value}{wr w':World}(h:PutJ W f p d g cap n m c short L wr)(k:New wr w')(h1:f<d)(h2:d<p):PutJ W f p d g cap n m c short L w':=h.step (k.keep _) (h.2.1.new k) h1 h2
theorem PutJ.set6{W:World}{f p d g cap n m c j:Nat}{short:Bool}{cd cr:List Value}{a0 a1 a2 a3 a4 a5:Value}{wr:World}(h:PutJ W f p d g cap n m c short (cd++a0::a1::a2::a3::a4::a5::cr) wr)(hj:cd.length=j*6)(hW:W.heap.size≤g)(h1:f<d)(h2:d<g)(h3:g<p)(b0 b1 b2 b3 b4 b5:Value):
 PutJ W f p d g cap n m c short (cd++b0::b1::b2::b3::b4::b5::cr) ((((((wr.setCell ⟨g,j*6,none⟩ b0).setCell ⟨g,j*6+1,none⟩ b1).setCell ⟨g,j*6+2,none⟩ b2).setCell ⟨g,j*6+3,none⟩ b3).setCell ⟨g,j*6+4,none⟩ b4).setCell ⟨g,j*6+5,none⟩ b5):=by
 obtain⟨q1,⟨st,q2⟩,q3,q4,q5⟩:=h
 have ks:∀{ok:Nat→Prop} {W0 w2:World},Keep ok W0 w2→(W0.heap.size≤g∨¬ok g)→Keep ok W0 ((((((w2.setCell ⟨g,j*6,none⟩ b0).setCell ⟨g,j*6+1,none⟩ b1).setCell ⟨g,j*6+2,none⟩ b2).setCell ⟨g,j*6+3,none⟩ b3).setCell ⟨g,j*6+4,none⟩ b4).setCell ⟨g,j*6+5,none⟩ b5):=fun k hp=>
  (((((k.setCell (p:=⟨g,j*6,none⟩) hp b0).setCell (p:=⟨g,j*6+1,none⟩) hp b1).setCell (p:=⟨g,j*6+2,none⟩) hp b2).setCell (p:=⟨g,j*6+3,none⟩) hp b3).setCell (p:=⟨g,j*6+4,none⟩) hp b4).setCell (p:=⟨g,j*6+5,none⟩) hp b5
 have kg:=ks (Keep.refl (fun b=>b≠g) wr) (.inr (by simp))
 exact⟨ks q1 (.inl hW),⟨st,kg.blk q2 (show f≠g by omega)⟩,kg.blk q3 (show p≠g by omega),kg.blk q4 (show d≠g by omega),own_set6 q5 hj b0 b1 b2 b3 b4 b5⟩
theorem PutJ.cut{W:World}{f p d g cap n m m' c:Nat}{short:Bool}{L:List Value}{wr:World}(h:PutJ W f p d g cap n m c short L wr)(hW:W.heap.size≤p)(h1:f<d)(h2:d<g)(h3:g<p):PutJ W f p d g cap n m' c short L (wr.setCell ⟨p,3,none⟩ (.slice (some ⟨g,0,none⟩) m' cap)):=by
 obtain⟨q1,⟨st,q2⟩,q3,q4,q5⟩:=h
 have kp:=(Keep.refl (fun b=>b≠p) wr).setCell (p:=⟨p,3,none⟩) (.inr (by simp)) (.slice (some ⟨g,0,none⟩) m' cap)
 refine⟨q1.setCell (p:=⟨p,3,none⟩) (.inl hW) _,⟨st,kp.blk q2 (show f≠p by omega)⟩,by simpa using blk_set q3 3 (.slice (some ⟨g,0,none⟩) m' cap),kp.blk q4 (show d≠p by omega),?_⟩
 obtain⟨e1,e2⟩:=q5
 refine⟨e1,?_⟩
 rcases e2 with⟨e,_⟩ | ⟨g',cap',cur,hv,hg,hb,hr⟩
 ·cases e
 ·cases hv
  exact .inr ⟨g,cap,cur,rfl,hg,kp.blk hb (show g≠p by omega),hr⟩
theorem Mem.take{w:World}{us:List V}{L:List Value}(h:Mem w us L)(m:Nat):Mem w (us.take m) (L.take (m*6)):=by
 induction m generalizing us L with
 | zero=>simpa using Mem.nil
 | succ m ih=>
   cases us with
   | nil=>cases h;simpa using Mem.nil
   | cons v us=>
     obtain⟨a0,a1,a2,a3,a4,a5,cr,rfl,h1,h2⟩:=h.head6
     have:=h1.append (ih h2)
     simpa [Nat.add_mul]using this
theorem PutJ.val{W:World}{f p d g cap n m c:Nat}{short:Bool}{L:List Value}{wr:World}(h:PutJ W f p d g cap n m c short L wr)(hc:c<18446744073709551616)(hf:FormsAt W f short){us:List V}(hm:Mem W us L)(hn:us.length=n)(hmn:m≤n):
 VM wr (.mk 21 0 [] (us.take m) 0 [.mk 5 c [] [] 0 []]) (.agg #[.int .i64 21,.int .u64 0,.string ⟨#[]⟩,.slice (some ⟨g,0,none⟩) m cap,.int .i64 0,.slice (some ⟨d,0,none⟩) 1 1]):=by
 obtain⟨q1,q2,q3,q4,q5⟩:=h
 obtain⟨st,hfh⟩:=hf
 have hcap:=own_cap q5
 refine VM.mk (n:=0) (t:=[]) (by omega) ⟨L.take (m*6),⟨some ⟨g,0,none⟩,cap,by rw [List.length_take,hn,Nat.min_eq_left hmn],by rw [List.length_take];omega,hcap.2,by rw [List.length_take,List.length_take,hm.len,hn];omega,fun _=>⟨g,0,rfl,fun q u hq=>?_⟩⟩,(hm.take m).keepN hfh (by simp) q1⟩ ?_
 ·rw [List.getElem?_take]at hq
  split at hq
  ·rw [Nat.zero_add];exact(own_at q5 q hq).1
  ·cases hq
 ·refine⟨_,⟨some ⟨d,0,none⟩,1,rfl,Nat.le_refl _,by unfold maxLen;omega,?_,fun _=>⟨d,0,rfl,fun q u hq=>?_⟩⟩,mem_plain wr 5 c [] hc⟩
  ·rfl
  ·rw [blk_cell q4,Nat.zero_add]
   simpa using hq
theorem PutK.of{fs:List (V×V)}{us:List V}{m n:Nat}(h:PutD fs us)(hn:us.length=n)(hf:n=fs.length)(hmn:m≤n)(hz:∀i (h:i<us.length),m≤i→us[i].kind=0):PutK fs (us.take m):=by
 refine⟨by rw [List.length_take];omega,fun j h1 h2=>?_,fun j h2 hj=>?_⟩
 ·rw [List.getElem_take]
  exact h j (by rw [List.length_take]at h1;omega) h2
 ·rw [List.length_take]at hj
  exact⟨us[j]'(by omega),h j (by omega) h2,hz j (by omega) (by omega)⟩
def PutI(fs:List (V×V))(W:World)(f p d g cap n c:Nat)(short:Bool)(j:Nat)(wr:World):Prop:=
 ∃(done:List V) (cd cr:List Value),PutJ W f p d g cap n n c short (cd++cr) wr∧done.length=j∧PutD fs done∧Mem W done cd∧Mem W ((fs.map (·.1)).drop j) cr
def PutM(fs:List (V×V))(W:World)(f p d g cap n c:Nat)(short:Bool)(cd cr:List Value)(F:V×V)(wr:World):Prop:=
 ∃(x:V) (A1 A2:Option Addr) (c1 c2:Nat),Put0 F x∧Mem W [x] [.int .i64 x.kind,.int .u64 (x.num:Int),.string ⟨x.text.toArray⟩,.slice A1 x.kids.length c1,.int .i64 x.of,.slice A2 x.desc.length c2]∧PutJ W f p d g cap n n c short (cd++.int .i64 x.kind::.int .u64 (x.num:Int)::.string ⟨x.text.toArray⟩::.slice A1 x.kids.length c1::.int .i64 x.of::.slice A2 x.desc.length c2::cr) wr
theorem Mem.parts1{w:World}{u:V}{r0 r1 r2 r3 r4 r5:Value}(h:Mem w [u] [r0,r1,r2,r3,r4,r5]):∃A c A' c',r0=.int .i64 u.kind∧r1=.int .u64 (u.num:Int)∧r2=.string ⟨u.text.toArray⟩∧r3=.slice A u.kids.length c∧r4=.int .i64 u.of∧r5=.slice A' u.desc.length c':=by
 have hv:VM w u (.agg #[r0,r1,r2,r3,r4,r5]):=⟨_,rfl,h⟩
 obtain⟨A,c,o,A',c',heq,-,ho⟩:=hv.parts'
 simp only [Value.agg.injEq,Array.mk.injEq,List.cons.injEq,and_true]at heq
 obtain⟨rfl,rfl,rfl,rfl,rfl,rfl⟩:=heq
 exact⟨A,c,A',c',rfl,rfl,rfl,rfl,by rw [ho],rfl⟩
theorem VM.mem1{w:World}{u:V}{y:Value}(h:VM w u y):∃y0 y1 y2 y3 y4 y5,y=.agg #[y0,y1,y2,y3,y4,y5]∧Mem w [u] [y0,y1,y2,y3,y4,y5]:=by
 obtain⟨cells,rfl,hm⟩:=h
 obtain⟨y0,y1,y2,y3,y4,y5,cr,rfl,h1,h2⟩:=hm.head6
 cases h2
 exact⟨y0,y1,y2,y3,y4,y5,rfl,h1⟩
def PutT(fs:List (V×V))(W:World)(f p d g cap n c:Nat)(short:Bool)(m:Nat)(wr:World):Prop:=
 ∃(us:List V) (L:List Value),PutJ W f p d g cap n m c short L wr∧us.length=n∧PutD fs us∧Mem W us L∧m≤n∧∀i (h:i<us.length),m≤i→us[i].kind=0
theorem put_is(c:Nat)(hc:c<18446744073709551616)(fs:List (V×V))(hm:fs.length≤1000)(hpos:0<fs.length)(hput:∀ks,PutK fs ks→PutOK (.mk 21 0 [] ks 0 [.mk 5 c [] [] 0 []]))(f:Nat)(short:Bool)(w:World)(s:Value)(hs:FM w fs s)(hf:FormsAt w f short):
 Calls Tryz.prog 9 #[.agg #[.int .u64 (c:Int),s],.pointer (some ⟨f,0,none⟩)] w fun e w'=>∃sl b ks,e=.returned sl∧Keep (fun b=>b≠f) w w'∧FormsAt w' f short∧RowB w' w.heap.size sl b∧PutK fs ks∧EncW [.mk 21 0 [] ks 0 [.mk 5 c [] [] 0 []]] b:=by
 obtain⟨A,cc,rfl,-,-⟩:=hs.shape
 obtain⟨n,hn⟩:∃n,n=fs.length:=⟨_,rfl⟩
 have M:=Lib.hid hn
 have hm':=hm
 rw [←hn]at hs hm hpos ⊢
 have kA:=(Keep.refl (fun _=>True) w).alloc (.cells #[.int .u64 (c:Int),.slice A n cc] 33)
 have HW:=Lib.hid (whole_is c hc fs hm' (w.alloc (.cells #[.int .u64 (c:Int),.slice A n cc] 33)) _ (hs.keep kA) n hn)
 have HSA:=hs.keep kA
 have hfA:=hf.new kA
 have hflt:f<w.heap.size:=hf.lt
 obtain⟨WA,hWA⟩:∃WA,WA=w.alloc (.cells #[.int .u64 (c:Int),.slice A n cc] 33):=⟨_,rfl⟩
 have kBA:New WA WA:=Keep.refl _ _
 have hszA:WA.heap.size=w.heap.size+1:=by rw [hWA,World.size_alloc]
 have hbox:WA.heap[w.heap.size]? =some (.cells #[.int .u64 (c:Int),.slice A n cc] 33 (0,0)):=by rw [hWA];exact blk_new w _
 rw [←hWA]at HSA hfA kA
 have HWA:=Lib.hid hWA
 have HSZ:=Lib.hid hszA
 have HPUT:=Lib.hid hput
 have HFA:=Lib.hid hfA
 have HKA:=Lib.hid kA
 have HFS:=Lib.hid HSA
 have HBX:=Lib.hid hbox
 clear hm' hs hf hfA hput hszA hbox hn kA HSA kBA hWA
 go_enter Tryz.func9,Tryz.ntmps9
 go_wp2_with fail
 refine HW.out.mono ?_
 rintro e w1 ⟨sk,d,rfl,k1,⟨cells,hown,hmem⟩,hd1,hdb⟩
 rw [←HWA.out]at k1 hmem hd1
 obtain⟨Ag,cap,rfl⟩:=own_shape hown
 have hg:∃g,Ag=some ⟨g,0,none⟩∧d+2≤g∧g<w1.heap.size:=by
  rcases hown.2 with⟨_,h0⟩ | ⟨g,cap',cur,hv,hg,hb,_⟩
  ·omega
  ·cases hv;exact⟨g,rfl,hg,lt_blk hb⟩
 obtain⟨g,rfl,hg1,hg2⟩:=hg
 have hbx1:=k1.blk HBX.out trivial
 have q1:∀o,(w1.alloc o).cell? ⟨w.heap.size,1,none⟩=some (.slice A n cc):=fun o=>cell_alloc ((blk_cell hbx1 1).trans rfl) o
 obtain⟨p,hp⟩:∃p,p=w1.heap.size:=⟨_,rfl⟩
 have hq1:=q1 (.cells #[.int .i64 21,.int .u64 0,.string ⟨#[]⟩,.slice (some ⟨g,0,none⟩) n cap,.int .i64 0,.slice (some ⟨d,0,none⟩) 1 1] 78)
 have kV:=(Keep.refl (fun _=>True) w1).alloc (.cells #[.int .i64 21,.int .u64 0,.string ⟨#[]⟩,.slice (some ⟨g,0,none⟩) n cap,.int .i64 0,.slice (some ⟨d,0,none⟩) 1 1] 78)
 have hpn:=blk_new w1 (.cells #[.int .i64 21,.int .u64 0,.string ⟨#[]⟩,.slice (some ⟨g,0,none⟩) n cap,.int .i64 0,.slice (some ⟨d,0,none⟩) 1 1] 78)
 rw [←hp]at hpn
 have hst:PutI fs WA f p d g cap n c short 0 (w1.alloc (.cells #[.int .i64 21,.int .u64 0,.string ⟨#[]⟩,.slice (some ⟨g,0,none⟩) n cap,.int .i64 0,.slice (some ⟨d,0,none⟩) 1 1] 78)):=
  ⟨[],[],cells,⟨New.keep (k1.trans kV) _,(HFA.out.new k1).new kV,hpn,kV.blk hdb trivial,own_keep hown kV⟩,rfl,fun i h1=>absurd h1 (by simp),.nil,hmem⟩
 have HST:=Lib.hid hst
 have hgp:g<p:=by omega
 have hwd:w.heap.size<d:=by have:=HSZ.out;omega
 have hfd:f<d:=by omega
 have hdg:d<g:=by omega
 have hdp:d<p:=by omega
 have hWg:WA.heap.size≤g:=by omega
 have hWp:WA.heap.size≤p:=by omega
 have HP:=Lib.hid hp
 clear hst hown hmem hdb k1 kV hpn hbx1 q1 hg2 hd1 hp
 go_wp2_with fail
 go_loopg [13] n (fun kk s13 wr=>∃j:Nat,j+kk=n∧s13=.int .i64 (j:Int)∧PutI fs WA f p d g cap n c short j wr)
 case atStart=>exact⟨0,by omega,rfl,HST.out⟩
 case round=>
  obtain⟨j,hj,rfl,done,cd,cr,hJ,hdl,hPD,hmd,hmr⟩:=hrel
  clear HST
  rcases gk with _ | kk
  ·obtain rfl:n=j:=by omega
   have hcr:cr=[]:=by
    have e:(fs.map (·.1)).drop n=[]:=List.drop_eq_nil_of_le (by rw [List.length_map,←M.out];exact Nat.le_refl _)
    rw [e]at hmr
    cases hmr
    rfl
   subst hcr
   rw [List.append_nil]at hJ
   have HT:=Lib.hid (show PutT fs WA f p d g cap n c short n wr from⟨done,cd,hJ,hdl,hPD,hmd,Nat.le_refl _,fun i h hi=>absurd h (by omega)⟩)
   clear hJ hdl hPD hmd hmr
   go_wp2_with fail
   go_loopg [] n (fun m wr=>PutT fs WA f p d g cap n c short m wr)
   case atStart=>exact HT.out
   case round=>
    obtain⟨us,L,hJ,hul,hPD,hmu,hmn,hz⟩:=hrel
    clear HT
    have HJ:=Lib.hid hJ
    have HUL:=Lib.hid hul
    have HPD:=Lib.hid hPD
    have HMU:=Lib.hid hmu
    have HZ:=Lib.hid hz
    have v3:=(blk_cell hJ.2.2.1 3).trans rfl
    rw [HP.out]at v3
    clear hJ hul hPD hmu hz
    go_upto_region 9 with fail
    go_cut [77] (fun s77 wc=>∃b:Bool,s77=.bool b∧(b=true→∃m,gk=m+1∧∀h:m<us.length,us[m].kind=0)∧PutJ WA f p d g cap n gk c short L wc)
    case first=>
     rcases gk with _ | m
     ·go_wp2
      go_meet
      exact⟨false,rfl,(fun h=>by cases h),HJ.out⟩
     ·have hmu2:m<us.length:=by have:=HUL.out;omega
      obtain⟨e0,e1,e2,e3,e4,e5,hve,l0,-⟩:=HMU.out.at m hmu2
      obtain⟨A9,c9,o9,A0,c0,heq,-,-⟩:=hve.parts'
      simp only [Value.agg.injEq,Array.mk.injEq,List.cons.injEq,and_true]at heq
      obtain⟨rfl,rfl,rfl,rfl,rfl,rfl⟩:=heq
      obtain⟨y0,-⟩:=own_at HJ.out.2.2.2.2 _ l0
      obtain⟨u,hu⟩:∃u,u=us[m]:=⟨_,rfl⟩
      rw [←hu]at y0
      have HU:=Lib.hid (show ∀h:u.kind=0,∀h:m<us.length,us[m].kind=0 from fun h _=>by rw [←hu];exact h)
      clear hve l0 hu hmu2
      by_cases hk:u.kind=0
      ·have tk:(u.kind==0)=true:=by simpa using hk
       have HK:=Lib.hid (HU.out hk)
       have hpk:=Lib.hid (pick_is f 4 (by omega) (by omega) short wr HJ.out.2.1)
       clear hk
       go_wp2_with fail
       refine hpk.out.mono ?_
       rintro e w3 ⟨q,rfl,hq,k3,hf3⟩
       have HJ3:=Lib.hid (HJ.out.step k3 hf3 hfd hdp)
       rcases q with _ | q
       ·go_wp2
        go_meet
        exact⟨false,rfl,(fun h=>by cases h),HJ3.out⟩
       ·go_wp2
        go_meet
        exact⟨true,rfl,fun _=>⟨m,rfl,HK.out⟩,HJ3.out⟩
      ·have tk:(u.kind==0)=false:=by simpa using hk
       go_wp2
       go_meet
       exact⟨false,rfl,(fun h=>by cases h),HJ.out⟩
    case rest=>
     obtain⟨b,rfl,hb,hJc⟩:=hcut
     have HB:=Lib.hid hb
     have HJC:=Lib.hid hJc
     clear hb hJc HJ v3
     cases b
     ·have hPK:=PutK.of HPD.out HUL.out M.out hmn HZ.out
      have hcall:=HPUT.out _ hPK wc _ f short (HJC.out.val hc HFA.out HMU.out HUL.out hmn) HJC.out.2.1
      have z0:=(blk_cell HJC.out.2.2.1 0).trans rfl
      have z1:=(blk_cell HJC.out.2.2.1 1).trans rfl
      have z2:=(blk_cell HJC.out.2.2.1 2).trans rfl
      have z3:=(blk_cell HJC.out.2.2.1 3).trans rfl
      have z4:=(blk_cell HJC.out.2.2.1 4).trans rfl
      have z5:=(blk_cell HJC.out.2.2.1 5).trans rfl
      rw [HP.out]at z0 z1 z2 z3 z4 z5
      have HCALL:=Lib.hid hcall
      have HPK:=Lib.hid hPK
      have HWC:=Lib.hid ((New.keep HKA.out (fun b=>b≠f)).trans HJC.out.1)
      have hsz:=HWC.out.size
      clear hcall hPK HJC HB
      go_wp2_with fail
      refine HCALL.out.mono ?_
      rintro e w5 ⟨sl,bb,rfl,henc,k5,hf5,hrow⟩
      go_wp2
      go_ret
      exact⟨sl,bb,_,rfl,HWC.out.trans k5,hf5,hrow.mono hsz,HPK.out,henc⟩
     ·obtain⟨m,hgm,hk0⟩:=HB.out (by first | rfl | trivial)
      subst hgm
      have HK0:=Lib.hid hk0
      have v3:=(blk_cell HJC.out.2.2.1 3).trans rfl
      have F3:=blk_free HJC.out.2.2.1 3
      rw [HP.out]at v3 F3
      have S3:=Lib.hid (blk_set HJC.out.2.2.1 3 (.slice (some ⟨g,0,none⟩) m cap))
      have hmc:m≤cap:=by have:=(own_cap HJC.out.2.2.2.2).1;omega
      clear hk0 HB
      go_wp2_with fail
      go_roundg m
      case measure=>omega
      case rel=>
       rw [←HP.out]
       refine⟨us,L,HJC.out.cut hWp hfd hdg hgp,HUL.out,HPD.out,HMU.out,by omega,fun i h hi=>?_⟩
       rcases Nat.lt_or_ge m i with h1 | h1
       ·exact HZ.out i h h1
       ·obtain rfl:m=i:=by omega
        exact HK0.out h
  ·have hjn:j<n:=by omega
   have tj:decide (j<n)=true:=by simpa using hjn
   have hj1:j<fs.length:=by rw [←M.out];exact hjn
   obtain⟨st0,hfh⟩:=HFA.out
   have hFM:=HFS.out.keepN hfh (by simp) (by decide) hJ.1
   obtain⟨d2,i2,hAe,-,-,-,hat⟩:=hFM.at (fun h=>by rw [h]at hj1;simp at hj1)
   cases hAe
   obtain⟨a0,a1,a2,a3,a4,a5,b0,b1,b2,b3,b4,b5,hva,hvb,g0,g1,g2,g3,g4,g5,g6,g7,g8,g9,g10,g11⟩:=hat j hj1
   have hdr:(fs.map (·.1)).drop j=fs[j].1::(fs.map (·.1)).drop (j+1):=by
    rw [List.drop_eq_getElem_cons (by simpa using hj1)]
    simp
   rw [hdr]at hmr
   obtain⟨r0,r1,r2,r3,r4,r5,cr',rfl,hmj,hmr2⟩:=hmr.head6
   have hstp:=fun (u:V) (hu:Put1 fs[j] u)=>hPD.step (by rw [hdl];exact hj1) (by simpa only [hdl]using hu)
   obtain⟨F,hF⟩:∃F,F=fs[j]:=⟨_,rfl⟩
   rw [←hF]at hva hvb hmj hstp
   clear hF hdr hat hfh hFM
   obtain⟨u,x⟩:=F
   simp only at hva hvb hmj
   obtain⟨A5,c5,A6,c6,rfl,rfl,rfl,rfl,rfl,rfl⟩:=hmj.parts1
   obtain⟨A7,c7,o7,A8,c8,heq,-,-⟩:=hva.parts'
   simp only [Value.agg.injEq,Array.mk.injEq,List.cons.injEq,and_true]at heq
   obtain⟨rfl,rfl,rfl,rfl,rfl,rfl⟩:=heq
   obtain⟨B7,e7,p7,B8,e8,heq,-,-⟩:=hvb.parts'
   simp only [Value.agg.injEq,Array.mk.injEq,List.cons.injEq,and_true]at heq
   obtain⟨rfl,rfl,rfl,rfl,rfl,rfl⟩:=heq
   have hcdl:cd.length=j*6:=by rw [hmd.len,hdl]
   have HJ:=Lib.hid hJ
   have HSTP:=Lib.hid hstp
   have HMD:=Lib.hid hmd
   have HMR:=Lib.hid hmr2
   have HMJ:=Lib.hid hmj
   have HVA:=Lib.hid hva
   have HVB:=Lib.hid hvb
   have HCD:=Lib.hid hcdl
   have HDL:=Lib.hid hdl
   have HPD:=Lib.hid hPD
   clear hJ hstp hmd hmr hmr2 hmj hva hvb hcdl hdl hPD
   go_upto_region 5 with fail
   go_cut [39] (fun s39 wc=>∃b:Bool,s39=.bool b∧(b=true→u.kind≠0∧x.kind≠0∧sameV u x=true)∧PutJ WA f p d g cap n n c short (cd++.int .i64 u.kind::.int .u64 (u.num:Int)::.string ⟨u.text.toArray⟩::.slice A5 u.kids.length c5::.int .i64 u.of::.slice A6 u.desc.length c6::cr') wc)
   case first=>
    have kN:=(Keep.refl (fun _=>True) wr).alloc (.cells #[.int .i64 u.kind,.int .u64 (u.num:Int),.string ⟨u.text.toArray⟩,.slice A7 u.kids.length c7,.int .i64 o7,.slice A8 u.desc.length c8,.int .i64 x.kind,.int .u64 (x.num:Int),.string ⟨x.text.toArray⟩,.slice B7 x.kids.length e7,.int .i64 p7,.slice B8 x.desc.length e8] 81)
    by_cases hu0:u.kind=0
    ·have tu:(u.kind !=0)=false:=by simpa using hu0
     have tu':(u.kind==0)=true:=by simpa using hu0
     clear hu0
     go_wp2
     go_meet
     exact⟨false,rfl,(fun h=>by cases h),HJ.out.new kN hfd hdp⟩
    ·have tu:(u.kind !=0)=true:=by simpa using hu0
     have tu':(u.kind==0)=false:=by simpa using hu0
     by_cases hx0:x.kind=0
     ·have tx:(x.kind !=0)=false:=by simpa using hx0
      have tx':(x.kind==0)=true:=by simpa using hx0
      clear hx0
      go_wp2
      go_meet
      exact⟨false,rfl,(fun h=>by cases h),HJ.out.new kN hfd hdp⟩
     ·have tx:(x.kind !=0)=true:=by simpa using hx0
      have tx':(x.kind==0)=false:=by simpa using hx0
      have HC:=Lib.hid (same_val _ u x (Nat.le_refl _) (wr.alloc (.cells #[.int .i64 u.kind,.int .u64 (u.num:Int),.string ⟨u.text.toArray⟩,.slice A7 u.kids.length c7,.int .i64 o7,.slice A8 u.desc.length c8,.int .i64 x.kind,.int .u64 (x.num:Int),.string ⟨x.text.toArray⟩,.slice B7 x.kids.length e7,.int .i64 p7,.slice B8 x.desc.length e8] 81)) _ _ (HVA.out.keep kN) (HVB.out.keep kN))
      obtain⟨bb,hbb⟩:∃bb,bb=sameV u x:=⟨_,rfl⟩
      rw [←hbb]at HC
      have HBB:=Lib.hid hbb
      clear hbb
      go_wp2_with fail
      refine HC.out.mono ?_
      rintro e w2 ⟨rfl,k2⟩
      have hJ2:=(HJ.out.new kN hfd hdp).new k2 hfd hdp
      cases bb
      ·go_wp2
       go_meet
       exact⟨false,rfl,(fun h=>by cases h),hJ2⟩
      ·have hpk:=pick_is f 2 (by omega) (by omega) short w2 hJ2.2.1
       have HJ2:=Lib.hid hJ2
       clear hJ2
       go_wp2_with fail
       refine hpk.mono ?_
       rintro e w3 ⟨q,rfl,hq,k3,hf3⟩
       have HJ3:=Lib.hid (HJ2.out.step k3 hf3 hfd hdp)
       rcases q with _ | _ | q
       ·go_wp2
        go_meet
        exact⟨true,rfl,fun _=>⟨hu0,hx0,HBB.out.symm⟩,HJ3.out⟩
       ·go_wp2
        go_meet
        exact⟨false,rfl,(fun h=>by cases h),HJ3.out⟩
       ·omega
   case rest=>
    obtain⟨b,rfl,hb,hJc⟩:=hcut
    have HB:=Lib.hid hb
    have HJC:=Lib.hid hJc
    clear hb hJc HJ HVA HVB
    go_upto_if 39 with fail
    go_cut [] (fun wc=>PutM fs WA f p d g cap n c short cd cr' (u,x) wc)
    case first=>
     cases b
     ·go_wp2
      go_meet
      exact⟨u,A5,A6,c5,c6,.inl rfl,HMJ.out,HJC.out⟩
     ·have v3:=(blk_cell HJC.out.2.2.1 3).trans rfl
      rw [HP.out]at v3
      obtain⟨⟨q0,q1,q2,q3,q4,q5⟩,f0,f1,f2,f3,f4,f5⟩:=own_six HJC.out.2.2.2.2 HCD.out
      go_wp2
      go_meet
      exact⟨nul,none,none,0,0,.inr ⟨rfl,HB.out (by first | rfl | trivial)⟩,mem_plain WA 0 0 [] (by omega),HJC.out.set6 HCD.out hWg hfd hdg hgp _ _ _ _ _ _⟩
    case rest=>
     obtain⟨z,A1,A2,c1,c2,hz,hmz,hJz⟩:=hcut
     have v3:=(blk_cell hJz.2.2.1 3).trans rfl
     rw [HP.out]at v3
     obtain⟨⟨q0,q1,q2,q3,q4,q5⟩,-⟩:=own_six hJz.2.2.2.2 HCD.out
     have kd:=(Keep.refl (fun _=>True) wc).drew
     have hJd:=hJz.new kd hfd hdp
     have hin:=inside_is z WA wc.drew _ f short ⟨_,rfl,hmz⟩ hJd.1 HFA.out hJd.2.1
     have HIN:=Lib.hid hin
     have HZ:=Lib.hid hz
     have HJD:=Lib.hid hJd
     clear hin hz hmz hJz hJd kd HJC HB HMJ
     go_wp2_with fail
     go_region_law
      (go_simp;go_at_call 34;refine HIN.out.mono ?_;rintro e w4 ⟨y,rfl,k4,hf4,u',hiu,hvu⟩;have hJ4:=HJD.out.step k4 hf4 hfd hdp;have hmu:=hvu.mem1;obtain⟨y0,y1,y2,y3,y4,y5,rfl,hmu⟩:=hmu;obtain⟨A9,c9,A0,c0,rfl,rfl,rfl,rfl,rfl,rfl⟩:=hmu.parts1;have p3:=(blk_cell hJ4.2.2.1 3).trans rfl;rw [HP.out]at p3;obtain⟨⟨l0,l1,l2,l3,l4,l5⟩,f0,f1,f2,f3,f4,f5⟩:=own_six hJ4.2.2.2.2 HCD.out)
     all_goals
      go_wp2_with fail
      go_roundg kk
      case measure=>omega
      case rel=>exact⟨j+1,by omega,congrArg _ (by omega),done++[u'],cd++[_,_,_,_,_,_],cr',by rw [List.append_assoc];exact hJ4.set6 HCD.out hWg hfd hdg hgp _ _ _ _ _ _,by rw [List.length_append,HDL.out];rfl,HSTP.out u' (HZ.out.within hiu),HMD.out.append hmu,HMR.out⟩
end Go.Proofs.YtfoegolfadhmjaaGreatDoor
