/- spec.Forms.pieces at plain values. -/
import Derived.Test.YtfoegolfadhmjaaGreatDoorZ24
import Derived.Laws.IdiomStrings
set_option linter.all false
set_option maxRecDepth 100000
set_option maxHeartbeats 4000000
namespace Go.Proofs.YtfoegolfadhmjaaGreatDoor
open Go.RowKit Go.WideShapes
def isNum(k:Int):Prop:=k=2∨k=3∨k=4∨k=5∨k=6∨k=7∨k=8∨k=9∨k=10∨k=11∨k=16
theorem row_made{X:World}{base:Nat}{ps:List (UInt8×List UInt8)}{cells:List Value}(hb:base≤X.heap.size)(hn:ps.length≤1000)(hd:Dep (fun b=>base≤b) X (fun w=>Pcs w ps cells)):
 RowG 143 2 Pcs (X.alloc (.cells cells.toArray 143)) base (.slice (some ⟨X.heap.size,0,none⟩) ps.length ps.length) ps:=by
 have kN:=(Keep.refl (fun _=>True) X).alloc (.cells cells.toArray 143)
 have hlen:=pieceCells.len hd.here
 exact⟨cells,⟨hlen,.inr ⟨X.heap.size,ps.length,cells.toArray,rfl,hb,blk_new X _,Nat.le_refl _,by unfold maxLen;omega,by simp [hlen],by simp [←hlen]⟩⟩,
  hd.step kN.size (fun i hi _=>kN.block i hi trivial) (fun b hb hok=>⟨hok,fun e=>by simp [Value.ownBlock]at e;omega⟩)⟩
theorem RowB.made{X:World}{base:Nat}(hb:base≤X.heap.size)(bs:List UInt8)(hn:bs.length≤1000000000):RowB (X.alloc (.cells (bs.map fun x=>.int .u8 (x.toNat:Int)).toArray 5)) base (.slice (some ⟨X.heap.size,0,none⟩) bs.length bs.length) bs:=
 ⟨by simp,.inr ⟨X.heap.size,bs.length,(bs.map fun x=>.int .u8 (x.toNat:Int)).toArray,rfl,hb,blk_new X _,Nat.le_refl _,by unfold maxLen;omega,by simp,by simp [List.take_of_length_le]⟩⟩
theorem bytes_conv(w:World)(t:List UInt8)(ht:t.length≤1000000000):∃c w',(convert 9 27 (.string ⟨t.toArray⟩)).run Tryz.prog w=.ok (.slice (some ⟨w.heap.size,0,none⟩) t.length c) w'∧New w w'∧Dep (fun b=>b=w.heap.size) w' (fun w'=>SlC w' (.slice (some ⟨w.heap.size,0,none⟩) t.length c) t):=by
 have e:=run_bytes_of_string (P:=Tryz.prog) w 9 27 5 ⟨t.toArray⟩ Tryz.underlying9 Tryz.underlying27 Tryz.underlying5
 have hs:(⟨t.toArray⟩:ByteArray).size=t.length:=by simp [ByteArray.size]
 rw [hs]at e
 refine⟨_,_,e,((Keep.refl (fun _=>True) w).drew).alloc _,fun w2 h2=>?_⟩
 have hb:=(h2 w.heap.size (by simp) rfl).trans (blk_new w.drew _)
 refine⟨_,_,rfl,grownCap_ge _ _ _ _,?_,fun hne=>⟨_,0,rfl,fun j hj=>?_⟩⟩
 ·have:=grownCap_le_maxLen w t.length 0 5 (by unfold maxLen;omega)
  unfold maxLen at this
  exact this
 ·have h3:w2.cell? ⟨w.heap.size,0+j,none⟩=(bytesRow ⟨t.toArray⟩ (grownCap w t.length 0 5))[0+j]? :=by
   simp only [World.cell?,hb]
   rfl
  rw [h3,Nat.zero_add]
  unfold bytesRow
  rw [Array.getElem?_append_left (by simpa using hj)]
  simp [hj]
theorem slb_nil(w:World):SlB w (.slice none 0 0) []:=(RowB.nil (w:=w) (base:=0)).out.here
theorem numbered_is(k:Int)(hk:isNum k)(n:Nat)(hn:n<18446744073709551616)(t:List UInt8)(A1 A2:Option Addr)(a c1 b c2:Nat)(o:Int)(w:World):
 Calls Tryz.prog 85 #[.agg #[.int .i64 k,.int .u64 (n:Int),.string ⟨t.toArray⟩,.slice A1 a c1,.int .i64 o,.slice A2 b c2]] w fun e w'=>∃sl,e=.returned sl∧New w w'∧RowG 143 2 Pcs w' w.heap.size sl (pcs (.mk k n t [] o [])):=by
 have one:∀(k:Int) (code:UInt8) (s:Nat),s≤8→(codedL.lookup k).getD 0=(code.toNat:Int)→fixedV k=s→(k==4)=false→(k==5)=false→(k==8)=false→(k==9)=false→pcs (.mk k n t [] o [])=[(code,beB s n)]→Calls Tryz.prog 85 #[.agg #[.int .i64 k,.int .u64 (n:Int),.string ⟨t.toArray⟩,.slice A1 a c1,.int .i64 o,.slice A2 b c2]] w fun e w'=>∃sl,e=.returned sl∧New w w'∧RowG 143 2 Pcs w' w.heap.size sl (pcs (.mk k n t [] o [])):=by
  intro k code s hs hc hf h4 h5 h8 h9 hp
  rw [hp]
  exact numbered_one fixed_is k code s hs hc hf h4 h5 h8 h9 n hn t A1 A2 a c1 b c2 o w
 have two:∀(k:Int) (code:UInt8) (s:Nat),s≤8→(codedL.lookup k).getD 0=(code.toNat:Int)→fixedV k=s→(k=4∨k=5∨k=8∨k=9)→pcs (.mk k n t [] o [])=shortP k n++[(code,beB s n)]→Calls Tryz.prog 85 #[.agg #[.int .i64 k,.int .u64 (n:Int),.string ⟨t.toArray⟩,.slice A1 a c1,.int .i64 o,.slice A2 b c2]] w fun e w'=>∃sl,e=.returned sl∧New w w'∧RowG 143 2 Pcs w' w.heap.size sl (pcs (.mk k n t [] o [])):=by
  intro k code s hs hc hf h4 hp
  rw [hp]
  exact numbered_two fixed_is k code s hs hc hf h4 n hn t A1 A2 a c1 b c2 o w
 rcases hk with rfl | rfl | rfl | rfl | rfl | rfl | rfl | rfl | rfl | rfl | rfl
 ·exact one 2 80 1 (by omega) rfl rfl rfl rfl rfl rfl rfl
 ·exact one 3 96 2 (by omega) rfl rfl rfl rfl rfl rfl rfl
 ·exact two 4 112 4 (by omega) rfl rfl (by simp) (by simp [pcs,shortP])
 ·exact two 5 128 8 (by omega) rfl rfl (by simp) (by simp [pcs,shortP])
 ·exact one 6 81 1 (by omega) rfl rfl rfl rfl rfl rfl rfl
 ·exact one 7 97 2 (by omega) rfl rfl rfl rfl rfl rfl rfl
 ·exact two 8 113 4 (by omega) rfl rfl (by simp) (by simp [pcs,shortP])
 ·exact two 9 129 8 (by omega) rfl rfl (by simp) (by simp [pcs,shortP])
 ·exact one 10 114 4 (by omega) rfl rfl rfl rfl rfl rfl rfl
 ·exact one 11 130 8 (by omega) rfl rfl rfl rfl rfl rfl rfl
 ·exact one 16 131 8 (by omega) rfl rfl rfl rfl rfl rfl rfl
theorem pieces_num(k:Int)(hk:isNum k)(n:Nat)(hn:n<18446744073709551616)(t:List UInt8)(A1 A2:Option Addr)(a c1 b c2:Nat)(o:Int)(f:Value)(w:World):
 Calls Tryz.prog 62 #[f,.agg #[.int .i64 k,.int .u64 (n:Int),.string ⟨t.toArray⟩,.slice A1 a c1,.int .i64 o,.slice A2 b c2]] w fun e w'=>∃sl,e=.returned sl∧New w w'∧RowG 143 2 Pcs w' w.heap.size sl (pcs (.mk k n t [] o [])):=by
 have H:=Lib.hid (fun w=>numbered_is k hk n hn t A1 A2 a c1 b c2 o w)
 have kb:=(Keep.refl (fun _=>True) w).alloc (.cells #[.int .i64 k,.int .u64 (n:Int),.string ⟨t.toArray⟩,.slice A1 a c1,.int .i64 o,.slice A2 b c2] 78)
 have hz:=kb.size
 go_enter Tryz.func62,Tryz.ntmps62
 rcases hk with rfl | rfl | rfl | rfl | rfl | rfl | rfl | rfl | rfl | rfl | rfl
 all_goals
  go_wp2_with fail
  refine(H.out _).mono ?_
  rintro e w1 ⟨sl,rfl,k1,row⟩
  go_wp2
  go_ret
  exact⟨_,rfl,kb.trans k1,row.mono hz⟩
theorem pieces_null(n:Nat)(t:List UInt8)(A1 A2:Option Addr)(a c1 b c2:Nat)(o:Int)(f:Value)(w:World):
 Calls Tryz.prog 62 #[f,.agg #[.int .i64 0,.int .u64 (n:Int),.string ⟨t.toArray⟩,.slice A1 a c1,.int .i64 o,.slice A2 b c2]] w fun e w'=>∃sl,e=.returned sl∧New w w'∧RowG 143 2 Pcs w' w.heap.size sl [(64,[])]:=by
 have kb:=(Keep.refl (fun _=>True) w).alloc (.cells #[.int .i64 0,.int .u64 (n:Int),.string ⟨t.toArray⟩,.slice A1 a c1,.int .i64 o,.slice A2 b c2] 78)
 go_enter Tryz.func62,Tryz.ntmps62
 go_wp2
 go_ret
 have R:=row_made (ps:=[(64,[])]) (cells:=[.int .i64 64,.slice none 0 0]) kb.size (by simp) (fun w' _=>.cons (slb_nil w').toC .nil)
 simp only [World.size_alloc]at R
 exact⟨_,rfl,kb.alloc _,R⟩
theorem pieces_bool(n:Nat)(hn:n≤1)(t:List UInt8)(A1 A2:Option Addr)(a c1 b c2:Nat)(o:Int)(f:Value)(w:World):
 Calls Tryz.prog 62 #[f,.agg #[.int .i64 1,.int .u64 (n:Int),.string ⟨t.toArray⟩,.slice A1 a c1,.int .i64 o,.slice A2 b c2]] w fun e w'=>∃sl,e=.returned sl∧New w w'∧RowG 143 2 Pcs w' w.heap.size sl [(UInt8.ofNat (66-n),[]),(86,beB 1 n)]:=by
 have kb:=(Keep.refl (fun _=>True) w).alloc (.cells #[.int .i64 1,.int .u64 (n:Int),.string ⟨t.toArray⟩,.slice A1 a c1,.int .i64 o,.slice A2 b c2] 78)
 obtain rfl | rfl:n=0∨n=1:=by omega
 ·go_enter Tryz.func62,Tryz.ntmps62
  go_wp2
  go_ret
  have kc:=kb.alloc (.cells #[.int .u8 0] 5)
  have d:=(RowB.made kb.size [0] (by simp)).out
  simp only [World.size_alloc]at d
  have R:=row_made (ps:=[(66,[]),(86,[0])]) (cells:=[.int .i64 66,.slice none 0 0,.int .i64 86,.slice (some ⟨w.heap.size+1,0,none⟩) 1 1]) kc.size (by simp) (d.imp fun w' h=>.cons (slb_nil w').toC (.cons h.toC .nil))
  simp only [World.size_alloc]at R
  exact⟨_,rfl,kc.alloc _,R⟩
 ·go_enter Tryz.func62,Tryz.ntmps62
  go_wp2
  go_ret
  have kc:=kb.alloc (.cells #[.int .u8 1] 5)
  have d:=(RowB.made kb.size [1] (by simp)).out
  simp only [World.size_alloc]at d
  have R:=row_made (ps:=[(65,[]),(86,[1])]) (cells:=[.int .i64 65,.slice none 0 0,.int .i64 86,.slice (some ⟨w.heap.size+1,0,none⟩) 1 1]) kc.size (by simp) (d.imp fun w' h=>.cons (slb_nil w').toC (.cons h.toC .nil))
  simp only [World.size_alloc]at R
  exact⟨_,rfl,kc.alloc _,R⟩
theorem pieces_text(k:Int)(c8 c32:UInt8)(hk:k=18∧c8=160∧c32=176∨k=19∧c8=161∧c32=177∨k=20∧c8=163∧c32=179)(n:Nat)(t:List UInt8)(ht:t.length≤1000000000)(A1 A2:Option Addr)(a c1 b c2:Nat)(o:Int)(f:Value)(w:World):
 Calls Tryz.prog 62 #[f,.agg #[.int .i64 k,.int .u64 (n:Int),.string ⟨t.toArray⟩,.slice A1 a c1,.int .i64 o,.slice A2 b c2]] w fun e w'=>∃sl,e=.returned sl∧New w w'∧RowG 143 2 Pcs w' w.heap.size sl (lng c8 c32 t):=by
 have kb:=(Keep.refl (fun _=>True) w).alloc (.cells #[.int .i64 k,.int .u64 (n:Int),.string ⟨t.toArray⟩,.slice A1 a c1,.int .i64 o,.slice A2 b c2] 78)
 have hz:=kb.size
 go_enter Tryz.func62,Tryz.ntmps62
 rcases hk with⟨rfl,rfl,rfl⟩ | ⟨rfl,rfl,rfl⟩ | ⟨rfl,rfl,rfl⟩
 ·obtain⟨cc,wv,hcv,kv,hd⟩:=bytes_conv (w.alloc (.cells #[.int .i64 18,.int .u64 (n:Int),.string ⟨t.toArray⟩,.slice A1 a c1,.int .i64 o,.slice A2 b c2] 78)) t ht
  simp only [World.size_alloc]at hcv hd
  have H:=Lib.hid (lengthed_t 160 176 _ t wv hd.here ht)
  clear hd
  go_wp2_with fail
  refine H.out.mono ?_
  rintro e w1 ⟨sl,rfl,k1,row⟩
  go_wp2
  go_ret
  exact⟨_,rfl,(kb.trans kv).trans k1,row.mono (kb.trans kv).size⟩
 ·obtain⟨cc,wv,hcv,kv,hd⟩:=bytes_conv (w.alloc (.cells #[.int .i64 19,.int .u64 (n:Int),.string ⟨t.toArray⟩,.slice A1 a c1,.int .i64 o,.slice A2 b c2] 78)) t ht
  simp only [World.size_alloc]at hcv hd
  have H:=Lib.hid (lengthed_t 161 177 _ t wv hd.here ht)
  clear hd
  go_wp2_with fail
  refine H.out.mono ?_
  rintro e w1 ⟨sl,rfl,k1,row⟩
  go_wp2
  go_ret
  exact⟨_,rfl,(kb.trans kv).trans k1,row.mono (kb.trans kv).size⟩
 ·obtain⟨cc,wv,hcv,kv,hd⟩:=bytes_conv (w.alloc (.cells #[.int .i64 20,.int .u64 (n:Int),.string ⟨t.toArray⟩,.slice A1 a c1,.int .i64 o,.slice A2 b c2] 78)) t ht
  simp only [World.size_alloc]at hcv hd
  have H:=Lib.hid (lengthed_t 163 179 _ t wv hd.here ht)
  clear hd
  go_wp2_with fail
  refine H.out.mono ?_
  rintro e w1 ⟨sl,rfl,k1,row⟩
  go_wp2
  go_ret
  exact⟨_,rfl,(kb.trans kv).trans k1,row.mono (kb.trans kv).size⟩
structure UInv(w0:World)(B:Nat)(t:List UInt8)(l:Nat→Bool)(x:Nat→Value)(w:World):Prop where
 nw:New w0 w
 t0:l 0=true→x 31=.pointer (some ⟨B,0,none⟩)
 t1:l 1=true→x 32=.int .i64 17
 t2:l 2=true→x 33=.int .i64 152
 t3:l 3=true→x 34=.pointer (some ⟨B,2,none⟩)
 t4:l 4=true→x 35=.string ⟨t.toArray⟩
 p5:l 5=true→Dep (fun b=>w0.heap.size≤b) w (fun w=>SlC w (x 36) t)
 p6:l 6=true→∃v,x 37=.agg #[.int .i64 152,v]∧Dep (fun b=>w0.heap.size≤b) w (fun w=>SlC w v t)
 p7:l 7=true→RowG 143 2 Pcs w w0.heap.size (x 38) [(152,t)]
 p8:l 8=true→x 4=x 38
 d8:l 8=true→l 7=true
theorem UInv.world{w0:World}{B:Nat}{t:List UInt8}{l:Nat→Bool}{x:Nat→Value}{w:World}{w':World}(h:UInv w0 B t l x w)(kk:New w w'):UInv w0 B t l x w':=
 ⟨h.nw.trans kk,h.t0,h.t1,h.t2,h.t3,h.t4,fun a=>(h.p5 a).new kk,fun a=>let ⟨v,e1,e2⟩:=h.p6 a;⟨v,e1,e2.new kk⟩,fun a=>(h.p7 a).keep kk (fun _ _=>trivial),h.p8,h.d8⟩
theorem UInv.s0{w0:World}{B:Nat}{t:List UInt8}{l:Nat→Bool}{x:Nat→Value}{w:World}(h:UInv w0 B t l x w):UInv w0 B t (up l 0 true) (up x 31 (.pointer (some ⟨B,0,none⟩))) w:=by
 constructor
 case nw=>first | (simpa [up]using h.nw) | (intro a;have:=h.nw (by simpa [up]using a);simp [up,this])
 case t0=>intro _;simp [up]
 case t1=>first | (simpa [up]using h.t1) | (intro a;have:=h.t1 (by simpa [up]using a);simp [up,this])
 case t2=>first | (simpa [up]using h.t2) | (intro a;have:=h.t2 (by simpa [up]using a);simp [up,this])
 case t3=>first | (simpa [up]using h.t3) | (intro a;have:=h.t3 (by simpa [up]using a);simp [up,this])
 case t4=>first | (simpa [up]using h.t4) | (intro a;have:=h.t4 (by simpa [up]using a);simp [up,this])
 case p5=>first | (simpa [up]using h.p5) | (intro a;have:=h.p5 (by simpa [up]using a);simp [up,this])
 case p6=>first | (simpa [up]using h.p6) | (intro a;have:=h.p6 (by simpa [up]using a);simp [up,this])
 case p7=>first | (simpa [up]using h.p7) | (intro a;have:=h.p7 (by simpa [up]using a);simp [up,this])
 case d8=>first | (simpa [up]using h.d8) | (intro a;have:=h.d8 (by simpa [up]using a);simp [up,this])
 case p8=>first | (simpa [up]using h.p8) | (intro a;have:=h.p8 (by simpa [up]using a);simp [up,this])
theorem UInv.s1{w0:World}{B:Nat}{t:List UInt8}{l:Nat→Bool}{x:Nat→Value}{w:World}(h:UInv w0 B t l x w):UInv w0 B t (up l 1 true) (up x 32 (.int .i64 17)) w:=by
 constructor
 case nw=>first | (simpa [up]using h.nw) | (intro a;have:=h.nw (by simpa [up]using a);simp [up,this])
 case t0=>first | (simpa [up]using h.t0) | (intro a;have:=h.t0 (by simpa [up]using a);simp [up,this])
 case t1=>intro _;simp [up]
 case t2=>first | (simpa [up]using h.t2) | (intro a;have:=h.t2 (by simpa [up]using a);simp [up,this])
 case t3=>first | (simpa [up]using h.t3) | (intro a;have:=h.t3 (by simpa [up]using a);simp [up,this])
 case t4=>first | (simpa [up]using h.t4) | (intro a;have:=h.t4 (by simpa [up]using a);simp [up,this])
 case p5=>first | (simpa [up]using h.p5) | (intro a;have:=h.p5 (by simpa [up]using a);simp [up,this])
 case p6=>first | (simpa [up]using h.p6) | (intro a;have:=h.p6 (by simpa [up]using a);simp [up,this])
 case p7=>first | (simpa [up]using h.p7) | (intro a;have:=h.p7 (by simpa [up]using a);simp [up,this])
 case d8=>first | (simpa [up]using h.d8) | (intro a;have:=h.d8 (by simpa [up]using a);simp [up,this])
 case p8=>first | (simpa [up]using h.p8) | (intro a;have:=h.p8 (by simpa [up]using a);simp [up,this])
theorem UInv.s2{w0:World}{B:Nat}{t:List UInt8}{l:Nat→Bool}{x:Nat→Value}{w:World}(h:UInv w0 B t l x w):UInv w0 B t (up l 2 true) (up x 33 (.int .i64 152)) w:=by
 constructor
 case nw=>first | (simpa [up]using h.nw) | (intro a;have:=h.nw (by simpa [up]using a);simp [up,this])
 case t0=>first | (simpa [up]using h.t0) | (intro a;have:=h.t0 (by simpa [up]using a);simp [up,this])
 case t1=>first | (simpa [up]using h.t1) | (intro a;have:=h.t1 (by simpa [up]using a);simp [up,this])
 case t2=>intro _;simp [up]
 case t3=>first | (simpa [up]using h.t3) | (intro a;have:=h.t3 (by simpa [up]using a);simp [up,this])
 case t4=>first | (simpa [up]using h.t4) | (intro a;have:=h.t4 (by simpa [up]using a);simp [up,this])
 case p5=>first | (simpa [up]using h.p5) | (intro a;have:=h.p5 (by simpa [up]using a);simp [up,this])
 case p6=>first | (simpa [up]using h.p6) | (intro a;have:=h.p6 (by simpa [up]using a);simp [up,this])
 case p7=>first | (simpa [up]using h.p7) | (intro a;have:=h.p7 (by simpa [up]using a);simp [up,this])
 case d8=>first | (simpa [up]using h.d8) | (intro a;have:=h.d8 (by simpa [up]using a);simp [up,this])
 case p8=>first | (simpa [up]using h.p8) | (intro a;have:=h.p8 (by simpa [up]using a);simp [up,this])
theorem UInv.s3{w0:World}{B:Nat}{t:List UInt8}{l:Nat→Bool}{x:Nat→Value}{w:World}(h:UInv w0 B t l x w):UInv w0 B t (up l 3 true) (up x 34 (.pointer (some ⟨B,2,none⟩))) w:=by
 constructor
 case nw=>first | (simpa [up]using h.nw) | (intro a;have:=h.nw (by simpa [up]using a);simp [up,this])
 case t0=>first | (simpa [up]using h.t0) | (intro a;have:=h.t0 (by simpa [up]using a);simp [up,this])
 case t1=>first | (simpa [up]using h.t1) | (intro a;have:=h.t1 (by simpa [up]using a);simp [up,this])
 case t2=>first | (simpa [up]using h.t2) | (intro a;have:=h.t2 (by simpa [up]using a);simp [up,this])
 case t3=>intro _;simp [up]
 case t4=>first | (simpa [up]using h.t4) | (intro a;have:=h.t4 (by simpa [up]using a);simp [up,this])
 case p5=>first | (simpa [up]using h.p5) | (intro a;have:=h.p5 (by simpa [up]using a);simp [up,this])
 case p6=>first | (simpa [up]using h.p6) | (intro a;have:=h.p6 (by simpa [up]using a);simp [up,this])
 case p7=>first | (simpa [up]using h.p7) | (intro a;have:=h.p7 (by simpa [up]using a);simp [up,this])
 case d8=>first | (simpa [up]using h.d8) | (intro a;have:=h.d8 (by simpa [up]using a);simp [up,this])
 case p8=>first | (simpa [up]using h.p8) | (intro a;have:=h.p8 (by simpa [up]using a);simp [up,this])
theorem UInv.s4{w0:World}{B:Nat}{t:List UInt8}{l:Nat→Bool}{x:Nat→Value}{w:World}(h:UInv w0 B t l x w):UInv w0 B t (up l 4 true) (up x 35 (.string ⟨t.toArray⟩)) w:=by
 constructor
 case nw=>first | (simpa [up]using h.nw) | (intro a;have:=h.nw (by simpa [up]using a);simp [up,this])
 case t0=>first | (simpa [up]using h.t0) | (intro a;have:=h.t0 (by simpa [up]using a);simp [up,this])
 case t1=>first | (simpa [up]using h.t1) | (intro a;have:=h.t1 (by simpa [up]using a);simp [up,this])
 case t2=>first | (simpa [up]using h.t2) | (intro a;have:=h.t2 (by simpa [up]using a);simp [up,this])
 case t3=>first | (simpa [up]using h.t3) | (intro a;have:=h.t3 (by simpa [up]using a);simp [up,this])
 case t4=>intro _;simp [up]
 case p5=>first | (simpa [up]using h.p5) | (intro a;have:=h.p5 (by simpa [up]using a);simp [up,this])
 case p6=>first | (simpa [up]using h.p6) | (intro a;have:=h.p6 (by simpa [up]using a);simp [up,this])
 case p7=>first | (simpa [up]using h.p7) | (intro a;have:=h.p7 (by simpa [up]using a);simp [up,this])
 case d8=>first | (simpa [up]using h.d8) | (intro a;have:=h.d8 (by simpa [up]using a);simp [up,this])
 case p8=>first | (simpa [up]using h.p8) | (intro a;have:=h.p8 (by simpa [up]using a);simp [up,this])
theorem UInv.s5{w0:World}{B:Nat}{t:List UInt8}{l:Nat→Bool}{x:Nat→Value}{w:World}{v:Value}(h:UInv w0 B t l x w)(hv:Dep (fun b=>w0.heap.size≤b) w (fun w=>SlC w v t)):UInv w0 B t (up l 5 true) (up x 36 v) w:=by
 constructor
 case nw=>first | (simpa [up]using h.nw) | (intro a;have:=h.nw (by simpa [up]using a);simp [up,this])
 case t0=>first | (simpa [up]using h.t0) | (intro a;have:=h.t0 (by simpa [up]using a);simp [up,this])
 case t1=>first | (simpa [up]using h.t1) | (intro a;have:=h.t1 (by simpa [up]using a);simp [up,this])
 case t2=>first | (simpa [up]using h.t2) | (intro a;have:=h.t2 (by simpa [up]using a);simp [up,this])
 case t3=>first | (simpa [up]using h.t3) | (intro a;have:=h.t3 (by simpa [up]using a);simp [up,this])
 case t4=>first | (simpa [up]using h.t4) | (intro a;have:=h.t4 (by simpa [up]using a);simp [up,this])
 case p5=>intro _;simpa [up]using hv
 case p6=>first | (simpa [up]using h.p6) | (intro a;have:=h.p6 (by simpa [up]using a);simp [up,this])
 case p7=>first | (simpa [up]using h.p7) | (intro a;have:=h.p7 (by simpa [up]using a);simp [up,this])
 case d8=>first | (simpa [up]using h.d8) | (intro a;have:=h.d8 (by simpa [up]using a);simp [up,this])
 case p8=>first | (simpa [up]using h.p8) | (intro a;have:=h.p8 (by simpa [up]using a);simp [up,this])
theorem UInv.s6{w0:World}{B:Nat}{t:List UInt8}{l:Nat→Bool}{x:Nat→Value}{w:World}(h:UInv w0 B t l x w)(h2:l 2=true)(h5:l 5=true):UInv w0 B t (up l 6 true) (up x 37 (.agg #[x 33,x 36])) w:=by
 constructor
 case nw=>first | (simpa [up]using h.nw) | (intro a;have:=h.nw (by simpa [up]using a);simp [up,this])
 case t0=>first | (simpa [up]using h.t0) | (intro a;have:=h.t0 (by simpa [up]using a);simp [up,this])
 case t1=>first | (simpa [up]using h.t1) | (intro a;have:=h.t1 (by simpa [up]using a);simp [up,this])
 case t2=>first | (simpa [up]using h.t2) | (intro a;have:=h.t2 (by simpa [up]using a);simp [up,this])
 case t3=>first | (simpa [up]using h.t3) | (intro a;have:=h.t3 (by simpa [up]using a);simp [up,this])
 case t4=>first | (simpa [up]using h.t4) | (intro a;have:=h.t4 (by simpa [up]using a);simp [up,this])
 case p5=>first | (simpa [up]using h.p5) | (intro a;have:=h.p5 (by simpa [up]using a);simp [up,this])
 case p6=>intro _;exact⟨x 36,by simp [up,h.t2 h2],h.p5 h5⟩
 case p7=>first | (simpa [up]using h.p7) | (intro a;have:=h.p7 (by simpa [up]using a);simp [up,this])
 case d8=>first | (simpa [up]using h.d8) | (intro a;have:=h.d8 (by simpa [up]using a);simp [up,this])
 case p8=>first | (simpa [up]using h.p8) | (intro a;have:=h.p8 (by simpa [up]using a);simp [up,this])
theorem UInv.s7{w0:World}{B:Nat}{t:List UInt8}{l:Nat→Bool}{x:Nat→Value}{w:World}(h:UInv w0 B t l x w)(h6:l 6=true)(h8:l 8=false):∃A m c,x 37=.agg #[.int .i64 152,.slice A m c]∧UInv w0 B t (up l 7 true) (up x 38 (.slice (some ⟨w.heap.size,0,none⟩) 1 1)) (w.alloc (.cells #[.int .i64 152,.slice A m c] 143)):=by
 obtain⟨v,e1,e2⟩:=h.p6 h6
 obtain⟨A,c,hv,_⟩:=e2.here
 subst hv
 have kN:=(Keep.refl (fun _=>True) w).alloc (.cells #[.int .i64 152,.slice A t.length c] 143)
 have g:=h.world kN
 refine⟨A,t.length,c,e1,?_⟩
 constructor
 case nw=>first | (simpa [up]using g.nw) | (intro a;have:=g.nw (by simpa [up]using a);simp [up,this])
 case t0=>first | (simpa [up]using g.t0) | (intro a;have:=g.t0 (by simpa [up]using a);simp [up,this])
 case t1=>first | (simpa [up]using g.t1) | (intro a;have:=g.t1 (by simpa [up]using a);simp [up,this])
 case t2=>first | (simpa [up]using g.t2) | (intro a;have:=g.t2 (by simpa [up]using a);simp [up,this])
 case t3=>first | (simpa [up]using g.t3) | (intro a;have:=g.t3 (by simpa [up]using a);simp [up,this])
 case t4=>first | (simpa [up]using g.t4) | (intro a;have:=g.t4 (by simpa [up]using a);simp [up,this])
 case p5=>first | (simpa [up]using g.p5) | (intro a;have:=g.p5 (by simpa [up]using a);simp [up,this])
 case p6=>first | (simpa [up]using g.p6) | (intro a;have:=g.p6 (by simpa [up]using a);simp [up,this])
 case p7=>
  intro _
  exact row_made (ps:=[(152,t)]) (cells:=[.int .i64 152,.slice A t.length c]) h.nw.size (by simp) (e2.imp fun w h=>.cons h .nil)
 case d8=>intro a;simp [up,h8]at a
 case p8=>intro a;simp [up,h8]at a
theorem UInv.s8{w0:World}{B:Nat}{t:List UInt8}{l:Nat→Bool}{x:Nat→Value}{w:World}(h:UInv w0 B t l x w)(h7:l 7=true):UInv w0 B t (up l 8 true) (up x 4 (x 38)) w:=by
 constructor
 case nw=>first | (simpa [up]using h.nw) | (intro a;have:=h.nw (by simpa [up]using a);simp [up,this])
 case t0=>first | (simpa [up]using h.t0) | (intro a;have:=h.t0 (by simpa [up]using a);simp [up,this])
 case t1=>first | (simpa [up]using h.t1) | (intro a;have:=h.t1 (by simpa [up]using a);simp [up,this])
 case t2=>first | (simpa [up]using h.t2) | (intro a;have:=h.t2 (by simpa [up]using a);simp [up,this])
 case t3=>first | (simpa [up]using h.t3) | (intro a;have:=h.t3 (by simpa [up]using a);simp [up,this])
 case t4=>first | (simpa [up]using h.t4) | (intro a;have:=h.t4 (by simpa [up]using a);simp [up,this])
 case p5=>first | (simpa [up]using h.p5) | (intro a;have:=h.p5 (by simpa [up]using a);simp [up,this])
 case p6=>first | (simpa [up]using h.p6) | (intro a;have:=h.p6 (by simpa [up]using a);simp [up,this])
 case p7=>first | (simpa [up]using h.p7) | (intro a;have:=h.p7 (by simpa [up]using a);simp [up,this])
 case d8=>intro _;simp [up,h7]
 case p8=>intro _;simp [up]
theorem uuid_region{Q:Exit→Act→World→Prop}{F:Act}{w:World}{B:Nat}{t:List UInt8}(ht:t.length≤1000000000)(hF:F.tmps.size=102)(t3:F.eval (.tmp 3)=.pointer (some ⟨B,0,none⟩))
 (hB1:w.cell? ⟨B,0,none⟩=some (.int .i64 17)) (hB4:w.cell? ⟨B,2,none⟩=some (.string ⟨t.toArray⟩))
 (hQ:∀a' w',Agrees F [4,31,32,33,34,35,36,37,38] a'→New w w'→RowG 143 2 Pcs w' w.heap.size (a'.eval (.tmp 4)) [(152,t)]→Q .normal a' w'):
 (Code.region 8 #[{ dst:=some 31,op:=Op.fieldAddr 78 (Operand.tmp 3) 0,type:=0,pos:= "amqp.go:84",after:=#[],guard:=none },{ dst:=some 32,op:=Op.load 3 (Operand.tmp 31),type:=3,pos:= "amqp.go:84",after:=#[{ on:=0,ground:=Ground.data }],guard:=none },{ dst:=some 33,op:=Op.call { callee:=Callee.value (Operand.func 82),args:=#[Operand.tmp 32],argTypes:=#[3] },type:=3,pos:= "amqp.go:84",after:=#[{ on:=1,ground:=Ground.data }],guard:=none },{ dst:=some 34,op:=Op.fieldAddr 78 (Operand.tmp 3) 2,type:=0,pos:= "amqp.go:84",after:=#[],guard:=none },{ dst:=some 35,op:=Op.load 9 (Operand.tmp 34),type:=9,pos:= "amqp.go:84",after:=#[{ on:=3,ground:=Ground.data }],guard:=none },{ dst:=some 36,op:=Op.convert 9 27 (Operand.tmp 35),type:=27,pos:= "amqp.go:84",after:=#[{ on:=4,ground:=Ground.data }],guard:=none },{ dst:=some 37,op:=Op.build 143 #[(0,Operand.tmp 33),(1,Operand.tmp 36)],type:=143,pos:= "amqp.go:84",after:=#[{ on:=2,ground:=Ground.data },{ on:=5,ground:=Ground.data }],guard:=none },{ dst:=some 38,op:=Op.buildSlice 140 1 #[(0,Operand.tmp 37)],type:=140,pos:= "amqp.go:84",after:=#[{ on:=6,ground:=Ground.data }],guard:=none },{ dst:=some 4,op:=Op.assign (Operand.tmp 38),type:=140,pos:= "amqp.go:84",after:=#[{ on:=7,ground:=Ground.data },{ on:=2,ground:=Ground.chain },{ on:=0,ground:=Ground.phase },{ on:=1,ground:=Ground.phase },{ on:=2,ground:=Ground.phase },{ on:=3,ground:=Ground.phase },{ on:=4,ground:=Ground.phase },{ on:=5,ground:=Ground.phase },{ on:=6,ground:=Ground.phase },{ on:=7,ground:=Ground.phase }],guard:=none }] true).wp Tryz.prog Q F w:=by
 refine region_inv (by kernel_rfl) (fun L a w'=>Agrees F [4,31,32,33,34,35,36,37,38] a∧UInv w B t (fun j=>L.getD j false) (fun t=>a.eval (.tmp t)) w') (by kernel_rfl) ?start ?step ?fin
 case start=>
  refine⟨Agrees.refl F _,?_⟩
  constructor
  case nw=>exact(Keep.refl _ w).drew
  all_goals (intro a;simp only [rep_off]at a;cases a)
 case fin=>
  intro L a w' hall hI
  have h7:=hI.2.p7 (hall 7 (by simp))
  rw [←hI.2.p8 (hall 8 (by simp))]at h7
  exact hQ a w' hI.1 hI.2.nw h7
 case step=>
  intro i o L a w' ho hd hL hs hI
  have hi:=(Array.getElem?_eq_some_iff.1 ho).1
  simp only [List.size_toArray,List.length_cons,List.length_nil]at hi hs
  have kput:∀i,i<9→∀d,d<102→d∈[4,31,32,33,34,35,36,37,38]→∀(v:Value) {w2:World},UInv w B t (up (fun j=>L.getD j false) i true) (up (fun t=>a.eval (.tmp t)) d v) w2→Agrees F [4,31,32,33,34,35,36,37,38] (a.put (some d) v)∧UInv w B t (fun j=>(L.setIfInBounds i true).getD j false) (fun t=>(a.put (some d) v).eval (.tmp t)) w2:=fun i hi d hd hm v w2 h=>⟨hI.1.put hm,by rw [up_L (by omega),up_x (by rw [hI.1.size,hF];exact hd)];exact h⟩
  have hi':i=0∨i=1∨i=2∨i=3∨i=4∨i=5∨i=6∨i=7∨i=8:=by omega
  clear hi
  rcases hi' with rfl | rfl | rfl | rfl | rfl | rfl | rfl | rfl | rfl
  ·have ho':=ho
   simp only [List.getElem?_toArray,List.getElem?_cons_zero,List.getElem?_cons_succ,Option.some.injEq]at ho
   refine wpOp_in ho' (by rw [←ho]) ?_
   subst ho
   clear ho'
   have e0:a.eval (.tmp 3)=.pointer (some ⟨B,0,none⟩):=hI.1.keep 3 (by decide)▸t3
   have hr:(execOp a.eval { dst:=some 31,op:=Op.fieldAddr 78 (Operand.tmp 3) 0,type:=0,pos:= "amqp.go:84",after:=#[],guard:=none }).run Tryz.prog w'=.ok (.value (.pointer (some ⟨B,0,none⟩))) w':=by
    simp only [execOp,e0]
    simp [go_sem]
   simp only [Oper.wp,hr,Oper.upon_value]
   exact kput 0 (by decide) 31 (by decide) (by decide) _ hI.2.s0
  ·have ho':=ho
   simp only [List.getElem?_toArray,List.getElem?_cons_zero,List.getElem?_cons_succ,Option.some.injEq]at ho
   refine wpOp_in ho' (by rw [←ho]) ?_
   subst ho
   clear ho'
   have e0:=hI.2.t0 (hd ⟨0,.data⟩ (by simp) rfl)
   have hB':=hI.2.nw.cell hB1 trivial
   have hr:(execOp a.eval { dst:=some 32,op:=Op.load 3 (Operand.tmp 31),type:=3,pos:= "amqp.go:84",after:=#[{ on:=0,ground:=Ground.data }],guard:=none }).run Tryz.prog w'=.ok (.value (.int .i64 17)) w':=by
    simp only [execOp,e0]
    simp [go_sem,hB']
   simp only [Oper.wp,hr,Oper.upon_value]
   exact kput 1 (by decide) 32 (by decide) (by decide) _ hI.2.s1
  ·have ho':=ho
   simp only [List.getElem?_toArray,List.getElem?_cons_zero,List.getElem?_cons_succ,Option.some.injEq]at ho
   refine wpOp_in ho' (by rw [←ho]) ?_
   subst ho
   clear ho'
   have e0:=hI.2.t1 (hd ⟨1,.data⟩ (by simp) rfl)
   have hr:(execOp a.eval { dst:=some 33,op:=Op.call { callee:=Callee.value (Operand.func 82),args:=#[Operand.tmp 32],argTypes:=#[3] },type:=3,pos:= "amqp.go:84",after:=#[{ on:=1,ground:=Ground.data }],guard:=none }).run Tryz.prog w'=.ok (.enter 82 #[.int .i64 17]) w':=by
    simp [execOp,resolve,go_sem]
    simpa [Act.eval]using e0
   simp only [Oper.wp,hr,Oper.upon]
   refine(coded_is 17 w').mono ?_
   rintro e w2 ⟨rfl,kv⟩
   exact kput 2 (by decide) 33 (by decide) (by decide) _ (hI.2.world kv).s2
  ·have ho':=ho
   simp only [List.getElem?_toArray,List.getElem?_cons_zero,List.getElem?_cons_succ,Option.some.injEq]at ho
   refine wpOp_in ho' (by rw [←ho]) ?_
   subst ho
   clear ho'
   have e0:a.eval (.tmp 3)=.pointer (some ⟨B,0,none⟩):=hI.1.keep 3 (by decide)▸t3
   have hr:(execOp a.eval { dst:=some 34,op:=Op.fieldAddr 78 (Operand.tmp 3) 2,type:=0,pos:= "amqp.go:84",after:=#[],guard:=none }).run Tryz.prog w'=.ok (.value (.pointer (some ⟨B,2,none⟩))) w':=by
    simp only [execOp,e0]
    simp [go_sem]
   simp only [Oper.wp,hr,Oper.upon_value]
   exact kput 3 (by decide) 34 (by decide) (by decide) _ hI.2.s3
  ·have ho':=ho
   simp only [List.getElem?_toArray,List.getElem?_cons_zero,List.getElem?_cons_succ,Option.some.injEq]at ho
   refine wpOp_in ho' (by rw [←ho]) ?_
   subst ho
   clear ho'
   have e0:=hI.2.t3 (hd ⟨3,.data⟩ (by simp) rfl)
   have hB':=hI.2.nw.cell hB4 trivial
   have hr:(execOp a.eval { dst:=some 35,op:=Op.load 9 (Operand.tmp 34),type:=9,pos:= "amqp.go:84",after:=#[{ on:=3,ground:=Ground.data }],guard:=none }).run Tryz.prog w'=.ok (.value (.string ⟨t.toArray⟩)) w':=by
    simp only [execOp,e0]
    simp [go_sem,hB']
   simp only [Oper.wp,hr,Oper.upon_value]
   exact kput 4 (by decide) 35 (by decide) (by decide) _ hI.2.s4
  ·have ho':=ho
   simp only [List.getElem?_toArray,List.getElem?_cons_zero,List.getElem?_cons_succ,Option.some.injEq]at ho
   refine wpOp_in ho' (by rw [←ho]) ?_
   subst ho
   clear ho'
   have e0:=hI.2.t4 (hd ⟨4,.data⟩ (by simp) rfl)
   obtain⟨cc,w2,hcv,kv,hv⟩:=bytes_conv w' t ht
   have hr:(execOp a.eval { dst:=some 36,op:=Op.convert 9 27 (Operand.tmp 35),type:=27,pos:= "amqp.go:84",after:=#[{ on:=4,ground:=Ground.data }],guard:=none }).run Tryz.prog w'=.ok (.value (.slice (some ⟨w'.heap.size,0,none⟩) t.length cc)) w2:=by
    simp only [execOp,e0,Sem.run_bind,hcv,Result.andThen_ok,Sem.run_pure]
   simp only [Oper.wp,hr,Oper.upon_value]
   exact kput 5 (by decide) 36 (by decide) (by decide) _ ((hI.2.world kv).s5 (hv.mono fun b _ e=>by have:=hI.2.nw.size;omega))
  ·have ho':=ho
   simp only [List.getElem?_toArray,List.getElem?_cons_zero,List.getElem?_cons_succ,Option.some.injEq]at ho
   refine wpOp_in ho' (by rw [←ho]) ?_
   subst ho
   clear ho'
   have e6:=hI.2.t2 (hd ⟨2,.data⟩ (by simp) rfl)
   obtain⟨A,cc,e8,_⟩:=(hI.2.p5 (hd ⟨5,.data⟩ (by simp) rfl)).here
   have e9:=hI.2.s6 (hd ⟨2,.data⟩ (by simp) rfl) (hd ⟨5,.data⟩ (by simp) rfl)
   simp only [e6,e8]at e9
   have hr:(execOp a.eval { dst:=some 37,op:=Op.build 143 #[(0,Operand.tmp 33),(1,Operand.tmp 36)],type:=143,pos:= "amqp.go:84",after:=#[{ on:=2,ground:=Ground.data },{ on:=5,ground:=Ground.data }],guard:=none }).run Tryz.prog w'=.ok (.value (.agg #[.int .i64 152,.slice A t.length cc])) w':=by
    simp only [execOp,List.map_toArray,List.map_cons,List.map_nil,e6,e8,Sem.run_bind,build143,Result.andThen_ok,Sem.run_pure]
   simp only [Oper.wp,hr,Oper.upon_value]
   exact kput 6 (by decide) 37 (by decide) (by decide) _ e9
  ·have ho':=ho
   simp only [List.getElem?_toArray,List.getElem?_cons_zero,List.getElem?_cons_succ,Option.some.injEq]at ho
   refine wpOp_in ho' (by rw [←ho]) ?_
   subst ho
   clear ho'
   obtain⟨A,m,cc,e1,e3⟩:=hI.2.s7 (hd ⟨6,.data⟩ (by simp) rfl) (by cases e:L.getD 8 false with | false=>rfl | true=>exact absurd (hI.2.d8 e) (by simp [hL]))
   have hr:(execOp a.eval { dst:=some 38,op:=Op.buildSlice 140 1 #[(0,Operand.tmp 37)],type:=140,pos:= "amqp.go:84",after:=#[{ on:=6,ground:=Ground.data }],guard:=none }).run Tryz.prog w'=.ok (.value (.slice (some ⟨w'.heap.size,0,none⟩) 1 1)) (w'.alloc (.cells #[.int .i64 152,.slice A m cc] 143)):=by
    simp only [execOp,List.map_toArray,List.map_cons,List.map_nil,e1,Sem.run_bind,slice143,Result.andThen_ok,Sem.run_pure]
   simp only [Oper.wp,hr,Oper.upon_value]
   exact kput 7 (by decide) 38 (by decide) (by decide) _ e3
  ·have ho':=ho
   simp only [List.getElem?_toArray,List.getElem?_cons_zero,List.getElem?_cons_succ,Option.some.injEq]at ho
   refine wpOp_in ho' (by rw [←ho]) ?_
   subst ho
   clear ho'
   simp only [Oper.wp,execOp,Sem.run_bind,Result.andThen_ok,Sem.run_pure,Oper.upon_value]
   exact kput 8 (by decide) 4 (by decide) (by decide) _ (hI.2.s8 (hd ⟨7,.data⟩ (by simp) rfl))
theorem pieces_uuid(n:Nat)(t:List UInt8)(ht:t.length=16)(A1 A2:Option Addr)(a c1 b c2:Nat)(o:Int)(f:Value)(w:World):
 Calls Tryz.prog 62 #[f,.agg #[.int .i64 17,.int .u64 (n:Int),.string ⟨t.toArray⟩,.slice A1 a c1,.int .i64 o,.slice A2 b c2]] w fun e w'=>∃sl,e=.returned sl∧New w w'∧RowG 143 2 Pcs w' w.heap.size sl [(152,t)]:=by
 have kb:=(Keep.refl (fun _=>True) w).alloc (.cells #[.int .i64 17,.int .u64 (n:Int),.string ⟨t.toArray⟩,.slice A1 a c1,.int .i64 o,.slice A2 b c2] 78)
 have hz:=kb.size
 have b0:=(blk_cell (blk_new w (.cells #[.int .i64 17,.int .u64 (n:Int),.string ⟨t.toArray⟩,.slice A1 a c1,.int .i64 o,.slice A2 b c2] 78)) 0).trans rfl
 have b2:=(blk_cell (blk_new w (.cells #[.int .i64 17,.int .u64 (n:Int),.string ⟨t.toArray⟩,.slice A1 a c1,.int .i64 o,.slice A2 b c2] 78)) 2).trans rfl
 go_enter Tryz.func62,Tryz.ntmps62
 go_wp2_with fail
 rename_i hK
 refine uuid_region (by omega) rfl rfl b0 b2 ?_
 intro a' w' ag kk row
 obtain⟨s4,h4⟩:∃s,a'.eval (.tmp 4)=s:=⟨_,rfl⟩
 rw [h4]at row
 have e:=ag.eq
 simp only [setAll,h4,List.set_cons_succ,List.set_cons_zero]at e
 generalize a'.eval (.tmp 31)=x0 at e
 generalize a'.eval (.tmp 32)=x1 at e
 generalize a'.eval (.tmp 33)=x2 at e
 generalize a'.eval (.tmp 34)=x3 at e
 generalize a'.eval (.tmp 35)=x4 at e
 generalize a'.eval (.tmp 36)=x5 at e
 generalize a'.eval (.tmp 37)=x6 at e
 generalize a'.eval (.tmp 38)=x7 at e
 subst e
 refine hK _ _ ?_
 have HR:=Lib.hid row
 go_wp2
 go_ret
 exact⟨_,rfl,kb.trans kk,HR.out.mono hz⟩
end Go.Proofs.YtfoegolfadhmjaaGreatDoor
