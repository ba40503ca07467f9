/- Trees of values in memory; a value more behind others. -/
import Derived.Test.YtfoegolfadhmjaaGreatDoorZ02
import Derived.DeepKeys3
import Derived.Maps.Own
import Derived.Laws.IdiomRangeMap
import Derived.Deep.AppendLies
set_option linter.all false
set_option maxRecDepth 100000
set_option maxHeartbeats 40000000
namespace Go.Proofs.YtfoegolfadhmjaaGreatDoor
open Go.RowKit
inductive V where
 | mk (kind:Int) (num:Nat) (text:List UInt8) (kids:List V) (of:Int) (desc:List V)
def V.kind:V→Int | .mk k _ _ _ _ _=>k
def V.num:V→Nat | .mk _ n _ _ _ _=>n
def V.text:V→List UInt8 | .mk _ _ t _ _ _=>t
def V.kids:V→List V | .mk _ _ _ l _ _=>l
def V.of:V→Int | .mk _ _ _ _ o _=>o
def V.desc:V→List V | .mk _ _ _ _ _ d=>d
def beB:Nat→Nat→List UInt8
 | 0,_=>[]
 | s+1,u=>UInt8.ofNat (u/256 ^ s % 256)::beB s u
theorem beB_len(s u:Nat):(beB s u).length=s:=by
 induction s with
 | zero=>rfl
 | succ s ih=>simp [beB,ih]
theorem beFrom_beB(s u a:Nat):Lib.beFrom a (beB s u)=a*256 ^ s+u % 256 ^ s:=by
 induction s generalizing a with
 | zero=>simp [beB,Lib.beFrom,Nat.mod_one]
 | succ s ih=>
   have e:(UInt8.ofNat (u/256 ^ s % 256)).toNat=u/256 ^ s % 256:=by
    have:=Nat.mod_lt (u/256 ^ s) (show 0<256 by omega)
    simp
   have h:=Nat.mod_mul (x:=u) (a:=256 ^ s) (b:=256)
   show Lib.beFrom (a*256+(UInt8.ofNat (u/256 ^ s % 256)).toNat) (beB s u)=_
   rw [ih,e,Nat.pow_succ,h,Nat.add_mul,Nat.mul_assoc,Nat.mul_comm 256 (256 ^ s),Nat.mul_comm (u/256 ^ s % 256)]
   omega
theorem beNat_beB(s u:Nat)(h:u<256 ^ s):Lib.beNat (beB s u)=u:=by
 have:=beFrom_beB s u 0
 rw [Nat.zero_mul,Nat.zero_add,Nat.mod_eq_of_lt h]at this
 exact this
theorem beNat_beB_mod(s u:Nat):Lib.beNat (beB s u)=u % 256 ^ s:=by
 have:=beFrom_beB s u 0
 rw [Nat.zero_mul,Nat.zero_add]at this
 exact this
def sgn(n:Nat):Int:=wrap64 (n:Int)
def Fits(k n:Nat):Prop:=n<18446744073709551616∧-(2 ^ (k-1):Nat)≤sgn n∧sgn n<(2 ^ (k-1):Nat)
inductive Leaf:V→List UInt8→Prop where
 | null (o:Int):Leaf (.mk 0 0 [] [] o []) [64]
 | b1 (o:Int):Leaf (.mk 1 1 [] [] o []) [65]
 | b0 (o:Int):Leaf (.mk 1 0 [] [] o []) [66]
 | bb (n:Nat) (o:Int) (h:n≤1):Leaf (.mk 1 n [] [] o []) (86::beB 1 n)
 | u8 (n:Nat) (o:Int) (h:n<256):Leaf (.mk 2 n [] [] o []) (80::beB 1 n)
 | u16 (n:Nat) (o:Int) (h:n<65536):Leaf (.mk 3 n [] [] o []) (96::beB 2 n)
 | u32z (o:Int):Leaf (.mk 4 0 [] [] o []) [67]
 | u32s (n:Nat) (o:Int) (h:n<256):Leaf (.mk 4 n [] [] o []) (82::beB 1 n)
 | u32 (n:Nat) (o:Int) (h:n<4294967296):Leaf (.mk 4 n [] [] o []) (112::beB 4 n)
 | u64z (o:Int):Leaf (.mk 5 0 [] [] o []) [68]
 | u64s (n:Nat) (o:Int) (h:n<256):Leaf (.mk 5 n [] [] o []) (83::beB 1 n)
 | u64 (n:Nat) (o:Int) (h:n<18446744073709551616):Leaf (.mk 5 n [] [] o []) (128::beB 8 n)
 | i8 (n:Nat) (o:Int) (h:Fits 8 n):Leaf (.mk 6 n [] [] o []) (81::beB 1 n)
 | i16 (n:Nat) (o:Int) (h:Fits 16 n):Leaf (.mk 7 n [] [] o []) (97::beB 2 n)
 | i32s (n:Nat) (o:Int) (h:Fits 8 n):Leaf (.mk 8 n [] [] o []) (84::beB 1 n)
 | i32 (n:Nat) (o:Int) (h:Fits 32 n):Leaf (.mk 8 n [] [] o []) (113::beB 4 n)
 | i64s (n:Nat) (o:Int) (h:Fits 8 n):Leaf (.mk 9 n [] [] o []) (85::beB 1 n)
 | i64 (n:Nat) (o:Int) (h:Fits 64 n):Leaf (.mk 9 n [] [] o []) (129::beB 8 n)
 | f32 (n:Nat) (o:Int) (h:n<4294967296):Leaf (.mk 10 n [] [] o []) (114::beB 4 n)
 | f64 (n:Nat) (o:Int) (h:n<18446744073709551616):Leaf (.mk 11 n [] [] o []) (130::beB 8 n)
 | time (n:Nat) (o:Int) (h:Fits 64 n):Leaf (.mk 16 n [] [] o []) (131::beB 8 n)
 | uuid (t:List UInt8) (o:Int) (h:t.length=16):Leaf (.mk 17 0 t [] o []) (152::t)
 | bin8 (t:List UInt8) (o:Int) (h:t.length<256):Leaf (.mk 18 0 t [] o []) (160::(beB 1 t.length++t))
 | bin32 (t:List UInt8) (o:Int) (h:t.length<4294967296):Leaf (.mk 18 0 t [] o []) (176::(beB 4 t.length++t))
 | str8 (t:List UInt8) (o:Int) (h:t.length<256):Leaf (.mk 19 0 t [] o []) (161::(beB 1 t.length++t))
 | str32 (t:List UInt8) (o:Int) (h:t.length<4294967296):Leaf (.mk 19 0 t [] o []) (177::(beB 4 t.length++t))
 | sym8 (t:List UInt8) (o:Int) (h:t.length<256):Leaf (.mk 20 0 t [] o []) (163::(beB 1 t.length++t))
 | sym32 (t:List UInt8) (o:Int) (h:t.length<4294967296):Leaf (.mk 20 0 t [] o []) (179::(beB 4 t.length++t))
inductive GLeaf(w:World):V→Value→Prop where
 | null (o:Int):GLeaf w (.mk 0 0 [] [] o []) .nilIface
 | bool (n:Nat) (o:Int) (h:n≤1):GLeaf w (.mk 1 n [] [] o []) (.iface 4 (.bool (n !=0)))
 | u8 (n:Nat) (o:Int) (h:n<256):GLeaf w (.mk 2 n [] [] o []) (.iface 5 (.int .u8 n))
 | u16 (n:Nat) (o:Int) (h:n<65536):GLeaf w (.mk 3 n [] [] o []) (.iface 117 (.int .u16 n))
 | u32 (n:Nat) (o:Int) (h:n<4294967296):GLeaf w (.mk 4 n [] [] o []) (.iface 22 (.int .u32 n))
 | u64 (n:Nat) (o:Int) (h:n<18446744073709551616):GLeaf w (.mk 5 n [] [] o []) (.iface 26 (.int .u64 n))
 | i8 (n:Nat) (o:Int) (h:Fits 8 n):GLeaf w (.mk 6 n [] [] o []) (.iface 191 (.int .i8 (sgn n)))
 | i16 (n:Nat) (o:Int) (h:Fits 16 n):GLeaf w (.mk 7 n [] [] o []) (.iface 195 (.int .i16 (sgn n)))
 | i32 (n:Nat) (o:Int) (h:Fits 32 n):GLeaf w (.mk 8 n [] [] o []) (.iface 21 (.int .i32 (sgn n)))
 | i64 (n:Nat) (o:Int) (h:Fits 64 n):GLeaf w (.mk 9 n [] [] o []) (.iface 2 (.int .i64 (sgn n)))
 | f32 (n:Nat) (o:Int) (h:n<4294967296):GLeaf w (.mk 10 n [] [] o []) (.iface 212 (.float .f32 n))
 | f64 (n:Nat) (o:Int) (h:n<18446744073709551616):GLeaf w (.mk 11 n [] [] o []) (.iface 216 (.float .f64 n))
 | time (n:Nat) (o:Int) (h:Fits 64 n):GLeaf w (.mk 16 n [] [] o []) (.iface 228 (timeV (sgn n)))
 | uuid (t:List UInt8) (o:Int) (h:t.length=16):GLeaf w (.mk 17 0 t [] o []) (.iface 309 (uuidV t))
 | bin (t:List UInt8) (o:Int) (s:Value) (h:SlB w s t):GLeaf w (.mk 18 0 t [] o []) (.iface 27 s)
 | str (t:List UInt8) (o:Int) (h:t.length<4294967296):GLeaf w (.mk 19 0 t [] o []) (.iface 9 (.string ⟨t.toArray⟩))
 | sym (t:List UInt8) (o:Int) (h:t.length<4294967296):GLeaf w (.mk 20 0 t [] o []) (.iface 9 (.string ⟨t.toArray⟩))
def Plain(k:Int)(l:List V):Prop:=∀v∈l,∃n t o,v=.mk k n t [] o []
inductive NumT:Int→UInt8→Nat→(Nat→Prop)→Prop where
 | bool:NumT 1 86 1 (·≤1)
 | u8:NumT 2 80 1 (·<256)
 | u16:NumT 3 96 2 (·<65536)
 | u32s:NumT 4 82 1 (·<256)
 | u32:NumT 4 112 4 (·<4294967296)
 | u64s:NumT 5 83 1 (·<256)
 | u64:NumT 5 128 8 (·<18446744073709551616)
 | i8:NumT 6 81 1 (Fits 8)
 | i16:NumT 7 97 2 (Fits 16)
 | i32s:NumT 8 84 1 (Fits 8)
 | i32:NumT 8 113 4 (Fits 32)
 | i64s:NumT 9 85 1 (Fits 8)
 | i64:NumT 9 129 8 (Fits 64)
 | f32:NumT 10 114 4 (·<4294967296)
 | f64:NumT 11 130 8 (·<18446744073709551616)
 | time:NumT 16 131 8 (Fits 64)
inductive TextT:Int→UInt8→Nat→Prop where
 | bin8:TextT 18 160 1
 | bin32:TextT 18 176 4
 | str8:TextT 19 161 1
 | str32:TextT 19 177 4
 | sym8:TextT 20 163 1
 | sym32:TextT 20 179 4
inductive EncA:List V→UInt8→List UInt8→Prop where
 | num {k:Int} {code:UInt8} {s:Nat} {ok:Nat→Prop} {l:List V} (hT:NumT k code s ok) (hp:Plain k l) (hn:∀v∈l,ok v.num∧v.text=[]):EncA l code (l.map fun v=>beB s v.num).flatten
 | uuid {l:List V} (hp:Plain 17 l) (hn:∀v∈l,v.num=0∧v.text.length=16):EncA l 152 (l.map V.text).flatten
 | text {k:Int} {code:UInt8} {s:Nat} {l:List V} {data:List UInt8} (hT:TextT k code s) (hp:Plain k l) (hn:∀v∈l,v.num=0∧v.text≠[]) (hl:Lens s (l.map V.text) data):EncA l code data
inductive ElemT:Int→TypeId→TypeId→Nat→(V→List Value)→Prop where
 | bool:ElemT 1 313 4 1 (fun v=>[.bool (v.num !=0)])
 | u16:ElemT 3 51 117 1 (fun v=>[.int .u16 v.num])
 | u32:ElemT 4 320 22 1 (fun v=>[.int .u32 v.num])
 | u64:ElemT 5 323 26 1 (fun v=>[.int .u64 v.num])
 | i8:ElemT 6 326 191 1 (fun v=>[.int .i8 (sgn v.num)])
 | i16:ElemT 7 329 195 1 (fun v=>[.int .i16 (sgn v.num)])
 | i32:ElemT 8 332 21 1 (fun v=>[.int .i32 (sgn v.num)])
 | i64:ElemT 9 335 2 1 (fun v=>[.int .i64 (sgn v.num)])
 | f32:ElemT 10 338 212 1 (fun v=>[.float .f32 v.num])
 | f64:ElemT 11 341 216 1 (fun v=>[.float .f64 v.num])
 | time:ElemT 16 343 228 2 (fun v=>timeC (sgn v.num))
 | uuid:ElemT 17 346 309 16 (fun v=>uuidC v.text)
 | str:ElemT 19 52 9 1 (fun v=>[.string ⟨v.text.toArray⟩])
 | sym:ElemT 20 109 158 1 (fun v=>[.string ⟨v.text.toArray⟩])
inductive GArr(w:World):List V→Value→Prop where
 | cells {k:Int} {T et:TypeId} {sz:Nat} {F:V→List Value} {l:List V} {s:Value} (hT:ElemT k T et sz F) (hp:Plain k l) (hs:SlX w et sz s (l.map F).flatten):GArr w l (.iface T s)
 | ubyte {l:List V} {s:Value} (hp:Plain 2 l) (hs:SlB w s (l.map fun v=>UInt8.ofNat v.num)):GArr w l (.iface 315 s)
 | bin {l:List V} {s:Value} (hp:Plain 18 l) (hs:SlR w 27 (fun w u x=>SlB w u x) s (l.map V.text)):GArr w l (.iface 349 s)
theorem Leaf.pos{v:V}{b:List UInt8}(h:Leaf v b):1≤b.length:=by cases h<;>simp<;>omega
def Born(es:Array MapEntry)(clock:Nat):Prop:=(es.toList.map (·.born)).Nodup∧∀e∈es.toList,e.born<clock
def flat2:List (V×V)→List V
 | []=>[]
 | (a,b)::r=>a::b::flat2 r
inductive GVs(w:World):List V→List Value→Prop where
 | nil:GVs w [] []
 | leaf {v:V} {x:Value} {vs:List V} {xs:List Value} (h:GLeaf w v x) (hs:GVs w vs xs):GVs w (v::vs) (x::xs)
 | list0 {o:Int} {vs:List V} {xs:List Value} (hs:GVs w vs xs):GVs w (.mk 21 0 [] [] o []::vs) (.iface 310 (.slice none 0 0)::xs)
 | list {o:Int} {d:Nat} {kids vs:List V} {us xs:List Value} (hd:w.heap[d]? =some (.cells us.toArray 20 (0,0))) (hk:GVs w kids us) (hne:kids≠[]) (hs:GVs w vs xs):GVs w (.mk 21 0 [] kids o []::vs) (.iface 310 (.slice (some ⟨d,0,none⟩) kids.length kids.length)::xs)
 | map {o:Int} {r clock:Nat} {ps qs:List (V×V)} {vs:List V} {es:Array MapEntry} {xs:List Value} (hd:w.heap[r]? =some (.map es clock)) (hb:Born es clock) (hp:ps.Perm qs) (hk:GVs w (flat2 qs) (es.toList.flatMap fun e=>[e.key,e.val])) (hs:GVs w vs xs):GVs w (.mk 22 0 [] (flat2 ps) o []::vs) (.iface 277 (.map (some r))::xs)
 | texts {o:Int} {r clock:Nat} {ps qs:List (V×V)} {vs:List V} {es:Array MapEntry} {xs:List Value} (hd:w.heap[r]? =some (.map es clock)) (hb:Born es clock) (hp:ps.Perm qs) (hk:GVs w (flat2 qs) (es.toList.flatMap fun e=>[.iface 9 e.key,e.val])) (hs:GVs w vs xs):GVs w (.mk 22 0 [] (flat2 ps) o []::vs) (.iface 96 (.map (some r))::xs)
 | arr {o:Int} {kids vs:List V} {x:Value} {xs:List Value} (h:GArr w kids x) (hne:kids≠[]) (hs:GVs w vs xs):GVs w (.mk 23 0 [] kids o []::vs) (x::xs)
def GV(w:World)(v:V)(x:Value):Prop:=GVs w [v] [x]
theorem GV.cons{w:World}{v:V}{x:Value}{vs:List V}{xs:List Value}(h:GV w v x)(hs:GVs w vs xs):GVs w (v::vs) (x::xs):=by
 cases h with
 | leaf h _=>exact .leaf h hs
 | list0 _=>exact .list0 hs
 | list hd hk hne _=>exact .list hd hk hne hs
 | map hd hb hp hk _=>exact .map hd hb hp hk hs
 | texts hd hb hp hk _=>exact .texts hd hb hp hk hs
 | arr h hne _=>exact .arr h hne hs
theorem GVs.inv{w:World}{v:V}{x:Value}{vs:List V}{xs:List Value}(h:GVs w (v::vs) (x::xs)):GV w v x∧GVs w vs xs:=by
 cases h with
 | leaf h hs=>exact⟨.leaf h .nil,hs⟩
 | list0 hs=>exact⟨.list0 .nil,hs⟩
 | list hd hk hne hs=>exact⟨.list hd hk hne .nil,hs⟩
 | map hd hb hp hk hs=>exact⟨.map hd hb hp hk .nil,hs⟩
 | texts hd hb hp hk hs=>exact⟨.texts hd hb hp hk .nil,hs⟩
 | arr h hne hs=>exact⟨.arr h hne .nil,hs⟩
theorem GVs.len{w:World}{vs:List V}{xs:List Value}(h:GVs w vs xs):vs.length=xs.length:=by
 induction h<;>simp_all
theorem GVs.of_all{w:World}:∀{vs:List V} {xs:List Value},vs.length=xs.length→(∀j (hj:j<vs.length) (hx:j<xs.length),GV w vs[j] xs[j])→GVs w vs xs
 | [],[],_,_=>.nil
 | [],_::_,h,_=>absurd h (by simp)
 | _::_,[],h,_=>absurd h (by simp)
 | v::vs,x::xs,h,ha=>(ha 0 (by simp) (by simp)).cons (GVs.of_all (by simpa using h) fun j hj hx=>ha (j+1) (by simpa using hj) (by simpa using hx))
def Reads(v:V)(b:List UInt8):Prop:=
 ∀(g:Nat) (r:List UInt8) (w:World),Buf w g (b++r)→Calls Tryz.prog 132 #[.pointer (some ⟨g,0,none⟩)] w fun e w'=>∃x,e=.returned (.tuple #[x,.nilIface])∧Got w g r (fun w=>GV w v x) w'
inductive ReadsL:List V→List UInt8→Prop where
 | nil:ReadsL [] []
 | cons {v:V} {vs:List V} {b bs:List UInt8} (h:Reads v b) (hs:ReadsL vs bs):ReadsL (v::vs) (b++bs)
theorem ReadsL.inv{v:V}{vs:List V}{b:List UInt8}(h:ReadsL (v::vs) b):∃b1 b2,b=b1++b2∧Reads v b1∧ReadsL vs b2:=by
 cases h with
 | cons h hs=>exact⟨_,_,rfl,h,hs⟩
theorem GV.shape{w:World}{v:V}{x:Value}(h:GV w v x):x=.nilIface∨∃T y,x=.iface T y:=by
 cases h with
 | leaf h _=>cases h<;>first | exact .inl rfl | exact .inr ⟨_,_,rfl⟩
 | list0 _=>exact .inr ⟨_,_,rfl⟩
 | list hd hk hne _=>exact .inr ⟨_,_,rfl⟩
 | map hd hb hp hk _=>exact .inr ⟨_,_,rfl⟩
 | texts hd hb hp hk _=>exact .inr ⟨_,_,rfl⟩
 | arr h hne _=>cases h<;>exact .inr ⟨_,_,rfl⟩
section
variable {w w':World}
theorem BytesAt.new{d i:Nat}{l:List UInt8}(h:BytesAt w d i l)(k:New w w'):BytesAt w' d i l:=by
 obtain⟨cells,hb,hc⟩:=h
 exact⟨cells,k.blk hb trivial,hc⟩
theorem SlB.new{v:Value}{l:List UInt8}(h:SlB w v l)(k:New w w'):SlB w' v l:=by
 obtain⟨A,c,rfl,h1,h2,hA⟩:=h
 refine⟨A,c,rfl,h1,h2,fun hne=>?_⟩
 obtain⟨d,i,rfl,hd⟩:=hA hne
 exact⟨d,i,rfl,hd.new k⟩
theorem GLeaf.new{v:V}{x:Value}(h:GLeaf w v x)(k:New w w'):GLeaf w' v x:=by
 cases h with
 | bin t o s h=>exact .bin t o s (h.new k)
 | null o=>exact .null o
 | bool n o h=>exact .bool n o h
 | u8 n o h=>exact .u8 n o h
 | u16 n o h=>exact .u16 n o h
 | u32 n o h=>exact .u32 n o h
 | u64 n o h=>exact .u64 n o h
 | i8 n o h=>exact .i8 n o h
 | i16 n o h=>exact .i16 n o h
 | i32 n o h=>exact .i32 n o h
 | i64 n o h=>exact .i64 n o h
 | f32 n o h=>exact .f32 n o h
 | f64 n o h=>exact .f64 n o h
 | time n o h=>exact .time n o h
 | uuid t o h=>exact .uuid t o h
 | str t o h=>exact .str t o h
 | sym t o h=>exact .sym t o h
end
def ListV(kids:List V)(s:Value)(w:World):Prop:=kids=[]∧s=.slice none 0 0∨kids≠[]∧SlR w 20 (fun w u v=>GV w v u) s kids
theorem ListV.gv{kids:List V}{s:Value}{w:World}(h:ListV kids s w)(o:Int):GV w (.mk 21 0 [] kids o []) (.iface 310 s):=by
 rcases h with⟨rfl,rfl⟩ | ⟨hne,d,cs,rfl,hd,hl,hr⟩
 ·exact .list0 .nil
 ·refine .list (us:=cs.toList) (by simpa using hd) (GVs.of_all (by simpa using hl.symm) fun j hj hx=>?_) hne .nil
  obtain⟨u,hu,hg⟩:=hr j hj
  rw [Array.getElem?_eq_getElem (by simpa using hx)]at hu
  obtain rfl:=Option.some.inj hu
  simpa using hg
theorem info20:(Tryz.prog.info? 20).map (fun i=>(i.zero,i.size,i.bytes))=some (some .nilIface,1,16):=by kernel_rfl
theorem list_none(g:Nat)(body r h:List UInt8)(hb:body=[])(hall:h=[69]∨Hd 192 208 0 body h):ArrC 127 g r (h++(body++r)) (fun s w=>s=.slice none 0 0):=by
 intro w p hpg hc hf B
 subst hb
 have HP:=Lib.hid hpg
 clear hpg
 have hlt:=cell_lt hc
 have head:∀w1,Buf w1 g (h++([]++r))→Calls Tryz.prog 94 #[.pointer (some ⟨g,0,none⟩)] w1 fun e w'=>e=.returned (.tuple #[.int .i64 0,.nilIface])∧Adv g r w1 w':=fun w1 B1=>by
  rcases hall with rfl | hh
  ·go_enter Tryz.func94,Tryz.ntmps94
   go_wp2_with fail
   refine(readType_is g _ _ _ B1).mono ?_
   rintro e w2 ⟨rfl,h1⟩
   go_wp2_with fail
   refine(buf_Len g _ _ h1.2).mono ?_
   rintro e w3 ⟨rfl,h2⟩
   go_wp2
   go_ret2
   exact⟨rfl,h1.trans h2⟩
  ·exact listHead g 0 [] r h hh (by simp) (by omega) w1 B1
 have HEAD:=Lib.hid head
 clear head
 obtain⟨M,hM⟩:∃M,M=r.length:=⟨_,rfl⟩
 have hM0:¬(M:Int)<0:=by omega
 have HM:=Lib.hid hM
 clear hM
 go_enter Tryz.func127,Tryz.ntmps127
 go_wp2_with fail
 refine(HEAD.out _ B).mono ?_
 rintro e w1 ⟨rfl,h1⟩
 go_wp2_with fail
 refine(buf_LenM g _ M HM.out _ h1.2).mono ?_
 rintro e w2 ⟨rfl,h2⟩
 have T:=h1.trans h2
 have hc2:=T.1.cell hc HP.out
 have fr2:w2.frozen? p=false:=(T.1.free hlt HP.out).trans hf
 go_wp2_with fail
 go_loopg [36] 0 (fun k s36 wr=>s36=.int .i64 0∧wr=w2)
 case atStart=>exact⟨rfl,rfl⟩
 case round=>
  obtain⟨rfl,rfl⟩:=hrel
  go_wp2
  go_ret
  exact⟨rfl,_,_,rfl,T,fun _ _=>rfl⟩
theorem list_some(g:Nat)(kids:List V)(body r h:List UInt8)(hne:0<kids.length)(hmax:kids.length≤1000)(hlen:kids.length≤body.length)(Hh:Hd 192 208 kids.length body h)(HR:ReadsL kids body):
 ArrC 127 g r (h++(body++r)) (fun s w=>SlR w 20 (fun w u v=>GV w v u) s kids):=by
 intro w p hpg hc hf B
 have hm:=make_one 310 20 _ _ Tryz.underlying310 info20 rfl (by omega) kids.length (by omega)
 obtain⟨n,hn⟩:∃n,n=kids.length:=⟨_,rfl⟩
 rw [←hn]at hm hne hmax hlen
 have hbl:=B.len
 obtain⟨M,hM⟩:∃M,M=(body++r).length:=⟨_,rfl⟩
 have hM1:n≤M∧M≤1099511627776:=by simp only [List.length_append]at hM hbl;omega
 obtain⟨hM1,hM2⟩:=hM1
 have t0:decide (M<n)=false:=by simp;omega
 have t1:decide ((0:Int)<n)=true:=by simp;omega
 have HM:=Lib.hid hM
 have N:=Lib.hid hn
 have HP:=Lib.hid hpg
 have BD:=Lib.hid HR
 have HL:=Lib.hid hlen
 clear hn hpg hM hbl HR hlen
 go_enter Tryz.func127,Tryz.ntmps127
 go_wp2_with fail
 refine(listHead g _ body r h Hh (by have:=HL.out;have:=N.out;omega) (by rw [←N.out];omega) _ B).mono ?_
 rintro e w1 ⟨rfl,h1⟩
 rw [←N.out]
 go_wp2_with fail
 refine(buf_LenM g _ M HM.out _ h1.2).mono ?_
 rintro e w2 ⟨rfl,h2⟩
 have h12:=h1.trans h2
 have hlt:=cell_lt hc
 have hc2:=h12.1.cell hc HP.out
 have fr2:w2.frozen? p=false:=(h12.1.free hlt HP.out).trans hf
 have hgl:=h12.2.lt
 have hws:=h12.1.size
 have hgw:=B.lt
 have HC2:=Lib.hid hc2
 have FR2:=Lib.hid fr2
 go_wp2_with fail
 go_loopg [36] n (fun k s57 wr=>∃(j:Nat) (bj:List UInt8),j+k=n∧s57=.int .i64 (j:Int)∧ReadsL (kids.drop j) bj∧Keep (fun k=>k≠g) w2 wr∧Buf wr g (bj++r)∧FillR wr w.heap.size w2.heap.size 20 (fun w u v=>GV w v u) kids j)
 case atStart=>exact⟨0,body,by omega,rfl,BD.out,(Keep.refl _ _).alloc _,h2.2.new ((Keep.refl _ _).alloc _),FillR.zero (blk_new _ _) (by rw [size_madeCells,N.out])⟩
 case round=>
  obtain⟨j,bj,hj,rfl,hLj,kr,hBr,fl⟩:=hrel
  have LJ:=Lib.hid hLj
  clear hLj
  cases gk with
  | zero=>
    obtain rfl:j=n:=by omega
    have hcr:=kr.cell HC2.out HP.out
    have hfr:wr.frozen? p=false:=(kr.free (cell_lt HC2.out) HP.out).trans FR2.out
    have hnil:bj=[]:=by
     have:=LJ.out
     rw [N.out,List.drop_length]at this
     cases this;rfl
    rw [hnil,List.nil_append]at hBr
    go_wp2
    go_ret
    refine⟨rfl,_,wr,rfl,⟨h12.1.trans kr,hBr⟩,?_⟩
    rw [N.out]at fl ⊢
    exact fl.out (Nat.le_refl _) hws
  | succ k=>
    have hjn:j<n:=by omega
    have tj:decide ((j:Int)<n)=true:=by simpa using hjn
    have e4:(j:Int)<n:=by omega
    have hjx:j<kids.length:=by rw [←N.out];exact hjn
    have hL:=LJ.out
    rw [List.drop_eq_getElem_cons hjx]at hL
    obtain⟨b1,b',rfl,hq,hL'⟩:=hL.inv
    have Q:=Lib.hid hq
    have L2:=Lib.hid hL'
    clear hL hL' LJ hq
    simp only [List.append_assoc]at hBr
    go_wp2_with fail
    refine(Q.out g (b'++r) _ hBr).mono ?_
    rintro e w4 ⟨x,rfl,h4,hx⟩
    have hsh:=hx.here.shape
    have e2:=kr.size
    have e3:=h4.1.size
    have fl5:=fl.keep h4.1 (show w2.heap.size≠g by omega) (fun b hb=>by omega)
    have fz5:=fl5.free j
    obtain⟨u1,hu1⟩:=fl5.cell j hjx
    have hlb:=lt_blk fl.choose_spec.1
    have st:=fl5.step hjx x (hx.mono (fun k _ hk=>⟨by omega,by omega⟩))
    clear hx
    rcases hsh with rfl | ⟨T,y,rfl⟩
    all_goals
     go_wp2
     go_roundg k
     case measure=>omega
     case rel=>
      exact⟨j+1,b',by omega,congrArg _ (by omega),L2.out,(kr.trans h4.1).setCell (.inl (Nat.le_refl _)) _,h4.2.keep (ok:=fun k=>k≠w2.heap.size) ((Keep.refl _ _).setCell (.inr (by simp)) _) (fun i hi=>by omega),st⟩
end Go.Proofs.YtfoegolfadhmjaaGreatDoor
namespace Go.Proofs.YtfoegolfadhmjaaGreatDoor
open Go.RowKit Go.WideShapes
structure KeyL(T:TypeId)(y:Value)(L:List Lit):Prop where
 type:Tryz.prog.keyTypeAt 3 T=true
 comp:(Tryz.prog.info? T).map (·.comparable)=some true
 form:y.formed Tryz.prog T=true
 lits:Tryz.prog.keyLits 4 T y.cells.toList=some L
theorem eq_same(d:Nat){T:TypeId}{x y:Value}(hc:(Tryz.prog.info? T).map (·.comparable)=some true)(w:World)(h:(Op.equalIn d T x y).run Tryz.prog w=.ok false w):(Op.equalIn (d+1) 20 (.iface T x) (.iface T y)).run Tryz.prog w=.ok false w:=by
 obtain⟨i,hi,hc⟩:=Option.map_eq_some_iff.1 hc
 simp [Op.equalIn,run_underlying Tryz.underlying20,typeInfo,hi,hc,h,Result.andThen]
theorem eq_other(d:Nat){T U:TypeId}{x y:Value}(w:World)(h:T≠U):(Op.equalIn (d+1) 20 (.iface T x) (.iface U y)).run Tryz.prog w=.ok false w:=by
 simp [Op.equalIn,run_underlying Tryz.underlying20,h,Result.andThen]
theorem check_one(d:Nat){T:TypeId}{x:Value}(hc:(Tryz.prog.info? T).map (·.comparable)=some true)(w:World)(h:(Instr.checkKey false d T x).run Tryz.prog w=.ok () w):(Instr.checkKey false (d+1) 20 (.iface T x)).run Tryz.prog w=.ok () w:=by
 obtain⟨i,hi,hc⟩:=Option.map_eq_some_iff.1 hc
 simp [Instr.checkKey,run_underlying Tryz.underlying20,typeInfo,hi,hc,h,Result.andThen]
theorem iface_ne{T U:TypeId}{x y:Value}{L M:List Lit}(hx:KeyL T x L)(hy:KeyL U y M)(hne:¬(T=U∧L=M))(w:World):(Op.equal 20 (.iface T x) (.iface U y)).run Tryz.prog w=.ok false w:=by
 show(Op.equalIn (9999+1) 20 (.iface T x) (.iface U y)).run Tryz.prog w=_
 by_cases h:T=U
 ·subst h
  obtain⟨r,hr,hiff⟩:=run_equalIn_deep 9996 3 T hx.type w 4 4 x y L M hx.form hy.form hx.lits hy.lits
  have hrf:r=false:=by
   cases r with
   | false=>rfl
   | true=>exact absurd ⟨rfl,hiff.1 rfl⟩ hne
  subst hrf
  exact eq_same 9999 hx.comp w hr
 ·exact eq_other 9999 w h
theorem check_iface{T:TypeId}{x:Value}{L:List Lit}(hx:KeyL T x L)(w:World):(Instr.checkKey false 10000 20 (.iface T x)).run Tryz.prog w=.ok () w:=by
 exact check_one 9999 hx.comp w (run_checkKey_deep false 9996 3 T hx.type w 4 x L hx.form hx.lits)
theorem find_iface(w:World)(k:Value)(es:List MapEntry)(hk:∀e∈es,(Op.equal 20 k e.key).run Tryz.prog w=.ok false w)(h1:∃T x,k=.iface T x):(Instr.findKey 20 k es).run Tryz.prog w=.ok none w:=by
 obtain⟨T,x,rfl⟩:=h1
 have ask:∀(es:List MapEntry) (i:Nat),(∀e∈es,(Op.equal 20 (.iface T x) e.key).run Tryz.prog w=.ok false w)→(Instr.findAsking 20 (.iface T x) es i).run Tryz.prog w=.ok none w:=by
  intro es
  induction es with
  | nil=>intro i _;rfl
  | cons e es ih=>
    intro i h
    simp only [Instr.findAsking,Sem.run_bind,h e (List.mem_cons_self ..),Result.andThen_ok,Bool.false_eq_true,if_false]
    exact ih (i+1) (fun e' he'=>h e' (List.mem_cons_of_mem _ he'))
 unfold Instr.findKey
 simp only [Sem.run_bind,run_underlying Tryz.underlying20,Result.andThen_ok]
 cases es with
 | nil=>rfl
 | cons e es=>
   simp only [Instr.findNow,Instr.sameNow]
   exact ask _ 0 hk
theorem update_new(w:World)(t:TypeId)(ht:Tryz.prog.underlying t=some (.map 20 20))(r:Nat)(es:Array MapEntry)(clock:Nat)(hr:w.heap[r]? =some (.map es clock)){T:TypeId}{x:Value}{L:List Lit}(hx:KeyL T x L)(v:Value)
 (hk:∀e∈es.toList,(Op.equal 20 (.iface T x) e.key).run Tryz.prog w=.ok false w):
 ∃w',(Instr.mapUpdate t (.map (some r)) (.iface T x) v).run Tryz.prog w=.ok () w'∧w'.heap[r]? =some (.map (es.push { key:=.iface T x,val:=v,born:=clock }) (clock+1))∧Keep (fun k=>k≠r) w w':=by
 have hlt:=lt_blk hr
 refine⟨{ w with heap:=w.heap.setIfInBounds r (.map (es.push { key:=.iface T x,val:=v,born:=clock }) (clock+1)) },?_,?_,⟨rfl,rfl,rfl,by simp,fun k hk hne=>?_⟩⟩
 ·simp only [Instr.mapUpdate,Sem.run_bind,run_underlying ht,Result.andThen_ok,getObj,Sem.run,hr,check_iface hx,find_iface w _ _ hk ⟨T,x,rfl⟩,setObj]
 ·simp [hlt]
 ·simp [Array.getElem?_setIfInBounds_ne (Ne.symm hne)]
theorem born_push{es:Array MapEntry}{clock:Nat}(h:Born es clock)(k v:Value):Born (es.push { key:=k,val:=v,born:=clock }) (clock+1):=by
 obtain⟨h1,h2⟩:=h
 refine⟨?_,fun e he=>?_⟩
 ·rw [Array.toList_push,List.map_append,List.nodup_append]
  refine⟨h1,by simp,fun a ha b hb=>?_⟩
  obtain⟨e,he,rfl⟩:=List.mem_map.1 ha
  simp only [List.map_cons,List.map_nil,List.mem_singleton]at hb
  subst hb
  have:=h2 e he
  omega
 ·rw [Array.toList_push]at he
  rcases List.mem_append.1 he with h | h
  ·have:=h2 e h;omega
  ·simp only [List.mem_singleton]at h;subst h;simp
theorem wpList_mapUpdate_eq{P:Program}(w w':World){ops:Array Oper}{rest:List Oper}{o:Oper}{a:Act}{Q:Exit→Act→World→Prop}
 (hg:o.guard=none) (m x v:Operand) (t:TypeId) (hop:o.op=Op.mapUpdate t m x v) (mv xv vv:Value) (hm:a.eval m=mv) (hx:a.eval x=xv) (hv:a.eval v=vv)
 (hr:(Instr.mapUpdate t mv xv vv).run P w=.ok () w') (hK:wpList P ops Q rest (a.put o.dst undef) w'):wpList P ops Q (o::rest) a w:=by
 refine wpList_plain hg fun K' hK'=>?_
 unfold Oper.wp
 simp [execOp,hop,hm,hx,hv,hr,Result.andThen]
 exact hK' _ _ hK
def KeyK(k:Int):Prop:=1≤k∧k≤9∨k=16∨k=17∨k=19∨k=20
def rk(v:V):Int×Nat×List UInt8:=(if v.kind=20 then 19 else v.kind,v.num,v.text)
inductive KeyOf:V→TypeId→List Lit→Prop where
 | bool (n:Nat) (o:Int) (h:n≤1):KeyOf (.mk 1 n [] [] o []) 4 [.bool (n !=0)]
 | u8 (n:Nat) (o:Int):KeyOf (.mk 2 n [] [] o []) 5 [.int .u8 n]
 | u16 (n:Nat) (o:Int):KeyOf (.mk 3 n [] [] o []) 117 [.int .u16 n]
 | u32 (n:Nat) (o:Int):KeyOf (.mk 4 n [] [] o []) 22 [.int .u32 n]
 | u64 (n:Nat) (o:Int):KeyOf (.mk 5 n [] [] o []) 26 [.int .u64 n]
 | i8 (n:Nat) (o:Int) (h:n<18446744073709551616):KeyOf (.mk 6 n [] [] o []) 191 [.int .i8 (sgn n)]
 | i16 (n:Nat) (o:Int) (h:n<18446744073709551616):KeyOf (.mk 7 n [] [] o []) 195 [.int .i16 (sgn n)]
 | i32 (n:Nat) (o:Int) (h:n<18446744073709551616):KeyOf (.mk 8 n [] [] o []) 21 [.int .i32 (sgn n)]
 | i64 (n:Nat) (o:Int) (h:n<18446744073709551616):KeyOf (.mk 9 n [] [] o []) 2 [.int .i64 (sgn n)]
 | time (n:Nat) (o:Int) (h:n<18446744073709551616):KeyOf (.mk 16 n [] [] o []) 228 [.int .i64 (sgn n/1000),.int .i64 (sgn n % 1000*1000000)]
 | uuid (t:List UInt8) (o:Int):KeyOf (.mk 17 0 t [] o []) 309 (t.map fun x=>.int .u8 x.toNat)
 | str (t:List UInt8) (o:Int):KeyOf (.mk 19 0 t [] o []) 9 [.string t]
 | sym (t:List UInt8) (o:Int):KeyOf (.mk 20 0 t [] o []) 9 [.string t]
theorem sgn_inj{a b:Nat}(ha:a<18446744073709551616)(hb:b<18446744073709551616)(h:sgn a=sgn b):a=b:=by
 unfold sgn wrap64 at h;omega
theorem bytes_inj:∀{a b:List UInt8},(a.map fun x=>Lit.int .u8 (x.toNat:Int))=(b.map fun x=>Lit.int .u8 (x.toNat:Int))→a=b
 | [],[],_=>rfl
 | [],_::_,h=>by simp at h
 | _::_,[],h=>by simp at h
 | x::a,y::b,h=>by
   simp only [List.map_cons,List.cons.injEq,Lit.int.injEq,true_and]at h
   have:x=y:=UInt8.toNat.inj (by omega)
   rw [this,bytes_inj h.2]
theorem KeyOf.inj{a b:V}{T:TypeId}{L:List Lit}(ha:KeyOf a T L)(hb:KeyOf b T L):rk a=rk b:=by
 obtain⟨M,hM⟩:∃M,M=L:=⟨_,rfl⟩
 rw [←hM]at hb
 cases ha<;>cases hb
 all_goals try simp only [List.cons.injEq,Lit.int.injEq,Lit.bool.injEq,Lit.string.injEq,and_true,true_and]at hM
 all_goals simp only [rk,V.kind,V.num,V.text]
 case bool.bool n o h m o' h'=>
  have:m=n:=by
   rcases Nat.lt_or_ge 0 n with h1 | h1<;>rcases Nat.lt_or_ge 0 m with h2 | h2
   ·omega
   ·obtain rfl:m=0:=by omega
    obtain rfl:n=1:=by omega
    simp at hM
   ·obtain rfl:n=0:=by omega
    obtain rfl:m=1:=by omega
    simp at hM
   ·omega
  subst this;rfl
 all_goals first
  | (have:=sgn_inj (by assumption) (by assumption) hM;subst this;rfl)
  | (have:=Int.ofNat.inj hM;subst this;rfl)
  | (have:=bytes_inj hM;subst this;rfl)
  | (subst hM;rfl)
  | skip
 case time.time n o h m o' h'=>
  have:sgn m=sgn n:=by omega
  have:=sgn_inj h' h this
  subst this;rfl
theorem wf_u8{n:Int}(h:0≤n∧n≤255):(Lit.int .u8 n).wf=true:=by
 have e1:IntKind.u8.min=0:=by decide
 have e2:IntKind.u8.max=255:=by decide
 simp [Lit.wf,e1,e2];omega
theorem wf_u16{n:Int}(h:0≤n∧n≤65535):(Lit.int .u16 n).wf=true:=by
 have e1:IntKind.u16.min=0:=by decide
 have e2:IntKind.u16.max=65535:=by decide
 simp [Lit.wf,e1,e2];omega
theorem wf_u32{n:Int}(h:0≤n∧n≤4294967295):(Lit.int .u32 n).wf=true:=by
 have e1:IntKind.u32.min=0:=by decide
 have e2:IntKind.u32.max=4294967295:=by decide
 simp [Lit.wf,e1,e2];omega
theorem wf_u64{n:Int}(h:0≤n∧n≤18446744073709551615):(Lit.int .u64 n).wf=true:=by
 have e1:IntKind.u64.min=0:=by decide
 have e2:IntKind.u64.max=18446744073709551615:=by decide
 simp [Lit.wf,e1,e2];omega
theorem wf_i8{n:Int}(h:-128≤n∧n≤127):(Lit.int .i8 n).wf=true:=by
 have e1:IntKind.i8.min=-128:=by decide
 have e2:IntKind.i8.max=127:=by decide
 simp [Lit.wf,e1,e2];omega
theorem wf_i16{n:Int}(h:-32768≤n∧n≤32767):(Lit.int .i16 n).wf=true:=by
 have e1:IntKind.i16.min=-32768:=by decide
 have e2:IntKind.i16.max=32767:=by decide
 simp [Lit.wf,e1,e2];omega
theorem wf_i32{n:Int}(h:-2147483648≤n∧n≤2147483647):(Lit.int .i32 n).wf=true:=by
 have e1:IntKind.i32.min=-2147483648:=by decide
 have e2:IntKind.i32.max=2147483647:=by decide
 simp [Lit.wf,e1,e2];omega
theorem wf_i64{n:Int}(h:-9223372036854775808≤n∧n≤9223372036854775807):(Lit.int .i64 n).wf=true:=by
 have e1:IntKind.i64.min=-9223372036854775808:=by decide
 have e2:IntKind.i64.max=9223372036854775807:=by decide
 simp [Lit.wf,e1,e2];omega
theorem keyLits_int(d T:Nat)(q:IntKind)(hu:Tryz.prog.underlying T=some (.int q))(n:Int)(hw:(Lit.int q n).wf=true):Tryz.prog.keyLits (d+1) T [.int q n]=some [.int q n]:=by
 simp [Program.keyLits,hu,hw]
theorem keyLits_arr(d:Nat){t e:TypeId}{n:Nat}{cs:List Value}(hu:Tryz.prog.underlying t=some (.array n e))(hl:cs.length=Tryz.prog.cellsOf t):
 Tryz.prog.keyLits (d+1) t cs=((List.range n).mapM fun i=>Tryz.prog.keyLits d e ((cs.drop (i*Tryz.prog.cellsOf e)).take (Tryz.prog.cellsOf e))).map List.flatten:=by
 simp [Program.keyLits,hu,hl]
theorem keyLits_bytes{t:List UInt8}(h:t.length=16):Tryz.prog.keyLits 4 309 (uuidC t)=some (t.map fun x=>Lit.int .u8 (x.toNat:Int)):=by
 have hb:∀b:UInt8,Tryz.prog.keyLits 3 5 [.int .u8 (b.toNat:Int)]=some [.int .u8 (b.toNat:Int)]:=fun b=>keyLits_int 2 5 .u8 Tryz.underlying5 _ (wf_u8 (by have:=b.toNat_lt;omega))
 obtain⟨a0,a1,a2,a3,a4,a5,a6,a7,a8,a9,a10,a11,a12,a13,a14,a15,rfl⟩:=sixteen_of h
 have c1:Tryz.prog.cellsOf 309=16:=by kernel_rfl
 have c2:Tryz.prog.cellsOf 5=1:=by kernel_rfl
 rw [keyLits_arr 3 Tryz.underlying309 (by rw [c1];rfl),c2]
 simp [uuidC,List.range,List.range.loop,hb]
theorem key_of{w:World}{v:V}{x:Value}(h:GLeaf w v x)(hk:KeyK v.kind):∃T y L,x=.iface T y∧KeyL T y L∧KeyOf v T L:=by
 cases h with
 | null o=>unfold KeyK V.kind at hk;simp at hk
 | bool n o h=>exact⟨4,_,_,rfl,⟨by kernel_rfl,by kernel_rfl,by kernel_rfl,by simp [Program.keyLits,Tryz.underlying4,Value.cells]⟩,.bool n o h⟩
 | u8 n o h=>exact⟨5,_,_,rfl,⟨by kernel_rfl,by kernel_rfl,by kernel_rfl,keyLits_int 3 5 .u8 Tryz.underlying5 _ (wf_u8 (by omega))⟩,.u8 n o⟩
 | u16 n o h=>exact⟨117,_,_,rfl,⟨by kernel_rfl,by kernel_rfl,by kernel_rfl,keyLits_int 3 117 .u16 Tryz.underlying117 _ (wf_u16 (by omega))⟩,.u16 n o⟩
 | u32 n o h=>exact⟨22,_,_,rfl,⟨by kernel_rfl,by kernel_rfl,by kernel_rfl,keyLits_int 3 22 .u32 Tryz.underlying22 _ (wf_u32 (by omega))⟩,.u32 n o⟩
 | u64 n o h=>exact⟨26,_,_,rfl,⟨by kernel_rfl,by kernel_rfl,by kernel_rfl,keyLits_int 3 26 .u64 Tryz.underlying26 _ (wf_u64 (by omega))⟩,.u64 n o⟩
 | i8 n o h=>exact⟨191,_,_,rfl,⟨by kernel_rfl,by kernel_rfl,by kernel_rfl,keyLits_int 3 191 .i8 Tryz.underlying191 _ (wf_i8 (by have:=h.2;simp at this;omega))⟩,.i8 n o h.1⟩
 | i16 n o h=>exact⟨195,_,_,rfl,⟨by kernel_rfl,by kernel_rfl,by kernel_rfl,keyLits_int 3 195 .i16 Tryz.underlying195 _ (wf_i16 (by have:=h.2;simp at this;omega))⟩,.i16 n o h.1⟩
 | i32 n o h=>exact⟨21,_,_,rfl,⟨by kernel_rfl,by kernel_rfl,by kernel_rfl,keyLits_int 3 21 .i32 Tryz.underlying21 _ (wf_i32 (by have:=h.2;simp at this;omega))⟩,.i32 n o h.1⟩
 | i64 n o h=>exact⟨2,_,_,rfl,⟨by kernel_rfl,by kernel_rfl,by kernel_rfl,keyLits_int 3 2 .i64 Tryz.underlying2 _ (wf_i64 (by have:=h.2;simp at this;omega))⟩,.i64 n o h.1⟩
 | f32 n o h=>unfold KeyK V.kind at hk;simp at hk
 | f64 n o h=>unfold KeyK V.kind at hk;simp at hk
 | time n o h=>
   have hs:=wrap64_in (n:Int)
   exact⟨228,_,_,rfl,⟨by kernel_rfl,by kernel_rfl,by kernel_rfl,by
    have w1:(Lit.int .i64 (sgn n/1000)).wf=true:=wf_i64 (by unfold sgn;omega)
    have w2:(Lit.int .i64 (sgn n % 1000*1000000)).wf=true:=wf_i64 (by omega)
    have c1:Tryz.prog.cellsOf 228=2:=by kernel_rfl
    have c2:Tryz.prog.cellsOf 2=1:=by kernel_rfl
    unfold Program.keyLits
    simp [timeV,Value.cells,Tryz.underlying228,c1,c2,keyLits_int 2 2 .i64 Tryz.underlying2 _ w1,keyLits_int 2 2 .i64 Tryz.underlying2 _ w2]⟩,.time n o h.1⟩
 | uuid t o h=>exact⟨309,_,_,rfl,⟨by kernel_rfl,by kernel_rfl,by
  obtain⟨a0,a1,a2,a3,a4,a5,a6,a7,a8,a9,a10,a11,a12,a13,a14,a15,rfl⟩:=sixteen_of h
  kernel_rfl,by simpa [uuidV,Value.cells,uuidC]using keyLits_bytes h⟩,.uuid t o⟩
 | bin t o s h=>unfold KeyK V.kind at hk;simp at hk
 | str t o h=>exact⟨9,_,_,rfl,⟨by kernel_rfl,by kernel_rfl,by kernel_rfl,by simp [Program.keyLits,Tryz.underlying9,Value.cells,ByteArray.size,maxLen];omega⟩,.str t o⟩
 | sym t o h=>exact⟨9,_,_,rfl,⟨by kernel_rfl,by kernel_rfl,by kernel_rfl,by simp [Program.keyLits,Tryz.underlying9,Value.cells,ByteArray.size,maxLen];omega⟩,.sym t o⟩
theorem keyed_is{v:V}{T:TypeId}{L:List Lit}(h:KeyOf v T L)(y:Value)(w:World):Calls Tryz.prog 224 #[.iface T y] w fun e w'=>e=.returned (.bool true)∧New w w':=by
 cases h
 all_goals
  go_enter Tryz.func224,Tryz.ntmps224
  go_wp2
  go_ret
  exact⟨rfl,Keep.refl _ _⟩
theorem GV.leaf{w:World}{v:V}{z:Value}(h:GV w v z)(hk:KeyK v.kind):GLeaf w v z:=by
 cases h with
 | leaf h _=>exact h
 | list0 _=>simp [KeyK,V.kind]at hk
 | list hd hk' hne _=>simp [KeyK,V.kind]at hk
 | map hd hb hp hk' _=>simp [KeyK,V.kind]at hk
 | texts hd hb hp hk' _=>simp [KeyK,V.kind]at hk
 | arr h hne _=>simp [KeyK,V.kind]at hk
def MapR(w:World)(base m:Nat)(ps:List (V×V)):Prop:=
 ∃es clock,w.heap[m]? =some (.map es clock)∧Born es clock∧es.size=ps.length∧∀j (hj:j<ps.length) (he:j<es.size),Dep (fun b=>base≤b∧b≠m) w (fun w=>GV w ps[j].1 es[j].key∧GV w ps[j].2 es[j].val)
section
variable {w w':World} {base m:Nat} {ps:List (V×V)}
theorem MapR.nil(h:w.heap[m]? =some (.map #[] 0)):MapR w base m []:=⟨#[],0,h,⟨by simp,by simp⟩,rfl,fun j hj=>absurd hj (by simp)⟩
theorem MapR.keep{ok:Nat→Prop}(h:MapR w base m ps)(kp:Keep ok w w')(ho:ok m)(hb:∀b,base≤b→ok b):MapR w' base m ps:=by
 obtain⟨es,clock,hm,hbo,hs,hr⟩:=h
 exact⟨es,clock,kp.blk hm ho,hbo,hs,fun j hj he=>(hr j hj he).keep kp (fun b _ hbb=>hb b hbb.1)⟩
theorem MapR.step(h:MapR w base m ps)(t:TypeId)(ht:Tryz.prog.underlying t=some (.map 20 20))(hk:∀q∈ps,KeyK q.1.kind){a b:V}(hka:KeyK a.kind)(hn:∀q∈ps,rk q.1≠rk a){x y:Value}
 (hx:Dep (fun b=>base≤b∧b≠m) w (fun w=>GV w a x)) (hy:Dep (fun b=>base≤b∧b≠m) w (fun w=>GV w b y)):
 ∃w',(Instr.mapUpdate t (.map (some m)) x y).run Tryz.prog w=.ok () w'∧Keep (fun k=>k≠m) w w'∧MapR w' base m (ps++[(a,b)]):=by
 obtain⟨es,clock,hm,hbo,hs,hr⟩:=h
 obtain⟨T,u,L,rfl,hL,hKO⟩:=key_of (hx.here.leaf hka) hka
 have hks:∀e∈es.toList,(Op.equal 20 (.iface T u) e.key).run Tryz.prog w=.ok false w:=fun e he=>by
  obtain⟨j,hj,rfl⟩:=List.getElem_of_mem he
  have hje:j<es.size:=by simpa using hj
  have hjp:j<ps.length:=by omega
  have g:=(hr j hjp hje).here.1
  have hkj:=hk _ (List.getElem_mem hjp)
  obtain⟨T',u',L',hkey,hL',hKO'⟩:=key_of (g.leaf hkj) hkj
  have:es.toList[j].key=.iface T' u':=by simpa using hkey
  rw [this]
  refine iface_ne hL hL' (fun ⟨e1,e2⟩=>?_) w
  subst e1;subst e2
  exact hn _ (List.getElem_mem hjp) (hKO'.inj hKO)
 obtain⟨w',hrun,hm',kk⟩:=update_new w t ht m es clock hm hL y hks
 refine⟨w',hrun,kk,_,_,hm',born_push hbo _ _,by simp [hs],fun j hj he=>?_⟩
 have kk':∀{φ:World→Prop},Dep (fun b=>base≤b∧b≠m) w φ→Dep (fun b=>base≤b∧b≠m) w' φ:=fun h=>h.keep kk (fun b _ hb=>hb.2)
 by_cases e:j<es.size
 ·have hjp:j<ps.length:=by omega
  rw [Array.getElem_push_lt e]
  simp only [List.getElem_append_left hjp]
  exact kk' (hr j hjp e)
 ·have hje:j=es.size:=by simp at he;omega
  subst hje
  rw [Array.getElem_push_eq,List.getElem_append_right (by omega)]
  have e0:es.size-ps.length=0:=by omega
  simp only [e0,List.getElem_cons_zero]
  exact(kk' hx).and (kk' hy)
theorem flat2_all{es:List MapEntry}{ps:List (V×V)}(hs:es.length=ps.length)(h:∀j (hj:j<ps.length) (he:j<es.length),GV w ps[j].1 es[j].key∧GV w ps[j].2 es[j].val):GVs w (flat2 ps) (es.flatMap fun e=>[e.key,e.val]):=by
 induction ps generalizing es with
 | nil=>
   cases es with
   | nil=>exact .nil
   | cons e es=>simp at hs
 | cons q ps ih=>
   cases es with
   | nil=>simp at hs
   | cons e es=>
     have h0:=h 0 (by simp) (by simp)
     exact h0.1.cons (h0.2.cons (ih (by simpa using hs) fun j hj he=>h (j+1) (by simpa using hj) (by simpa using he)))
def MapD(ok:Nat→Prop)(w:World)(ps:List (V×V))(s:Value):Prop:=
 ∃m es clock,s=.map (some m)∧Born es clock∧Dep ok w (fun w=>w.heap[m]? =some (.map es clock)∧GVs w (flat2 ps) (es.toList.flatMap fun e=>[e.key,e.val]))
theorem MapD.mono{ok ok':Nat→Prop}{s:Value}(h:MapD ok w ps s)(ho:∀k,k<w.heap.size→ok k→ok' k):MapD ok' w ps s:=by
 obtain⟨m,es,clock,hs,hb,hd⟩:=h
 exact⟨m,es,clock,hs,hb,hd.mono ho⟩
theorem MapD.keep{ok ok':Nat→Prop}{s:Value}(h:MapD ok w ps s)(k:Keep ok' w w')(ho:∀k,k<w.heap.size→ok k→ok' k):MapD ok w' ps s:=by
 obtain⟨m,es,clock,hs,hb,hd⟩:=h
 exact⟨m,es,clock,hs,hb,hd.keep k ho⟩
theorem MapR.out{b0:Nat}(h:MapR w base m ps)(h1:b0≤base)(h2:b0≤m):MapD (fun b=>b0≤b) w ps (.map (some m)):=by
 obtain⟨es,clock,hm,hbo,hs,hr⟩:=h
 refine⟨m,es,clock,rfl,hbo,fun w' hw=>⟨(hw m (lt_blk hm) h2).trans hm,flat2_all (by simpa using hs) fun j hj he=>?_⟩⟩
 have:=hr j hj (by simpa using he) w' (fun b hb hbb=>hw b hb (Nat.le_trans h1 hbb.1))
 simpa using this
end
structure MapOk(ps:List (V×V)):Prop where
 kinds:∀q∈ps,KeyK q.1.kind
 once:(ps.map fun q=>rk q.1).Nodup
theorem flat2_len(ps:List (V×V)):(flat2 ps).length=2*ps.length:=by
 induction ps with
 | nil=>rfl
 | cons q ps ih=>simp [flat2,ih];omega
theorem flat2_drop:∀(ps:List (V×V)) (j:Nat) (hj:j<ps.length),flat2 (ps.drop j)=ps[j].1::ps[j].2::flat2 (ps.drop (j+1))
 | q::ps,0,_=>rfl
 | q::ps,j+1,hj=>flat2_drop ps j (by simpa using hj)
theorem makeMap_n(t k e:TypeId)(hu:Tryz.prog.underlying t=some (.map k e))(q:IntKind)(n:Int)(w:World):(Instr.makeMap t (some (.int q n))).run Tryz.prog w=.ok (.map (some w.heap.size)) (w.alloc (.map #[] 0)):=by
 simp [Instr.makeMap,run_underlying hu,asInt,asIntOf,newObj]
 rfl
theorem mapItems_is(g:Nat)(p:Addr)(hpg:p.block≠g)(ps:List (V×V))(body r:List UInt8)(hmax:ps.length≤1000)(HR:ReadsL (flat2 ps) body)(ok:MapOk ps)
 (w:World) (hc:w.cell? p=some (.map none)) (hf:w.frozen? p=false) (B:Buf w g (body++r)):
 Calls Tryz.prog 201 #[.pointer (some p),.pointer (some ⟨g,0,none⟩),.int .u32 (2*(ps.length:Int))] w fun e w'=>e=.returned .nilIface∧∃sl w1,w'=w1.setCell p sl∧Adv g r w w1∧MapD (fun k=>w.heap.size≤k) w1 ps sl:=by
 obtain⟨n,hn⟩:∃n,n=ps.length:=⟨_,rfl⟩
 rw [←hn]at hmax ⊢
 have N:=Lib.hid hn
 have HP:=Lib.hid hpg
 have BD:=Lib.hid HR
 have OK:=Lib.hid ok
 have hgw:=B.lt
 have hlt:=cell_lt hc
 have hq:(2*(n:Int)).tdiv 2=n:=by rw [Int.tdiv_eq_ediv_of_nonneg (by omega)];omega
 have hmk:=makeMap_n 422 20 20 Tryz.underlying422 .u32 n
 clear hn hpg HR ok
 go_enter Tryz.func201,Tryz.ntmps201
 go_wp2_with fail
 go_loopg [8] n (fun k s8 wr=>∃(j:Nat) (bj:List UInt8),j+k=n∧s8=.int .u32 (2*(j:Int))∧ReadsL (flat2 (ps.drop j)) bj∧Keep (fun k=>k≠g) w wr∧Buf wr g (bj++r)∧MapR wr w.heap.size w.heap.size (ps.take j))
 case atStart=>exact⟨0,body,by omega,rfl,BD.out,(Keep.refl _ _).alloc _,B.new ((Keep.refl _ _).alloc _),MapR.nil (blk_new _ _)⟩
 case round=>
  obtain⟨j,bj,hj,rfl,hLj,kr,hBr,fl⟩:=hrel
  have LJ:=Lib.hid hLj
  clear hLj
  cases gk with
  | zero=>
    obtain rfl:j=n:=by omega
    have hcr:=kr.cell hc HP.out
    have hfr:wr.frozen? p=false:=(kr.free hlt HP.out).trans hf
    have hnil:bj=[]:=by
     have:=LJ.out
     rw [N.out,List.drop_length]at this
     cases this;rfl
    rw [hnil,List.nil_append]at hBr
    rw [N.out,List.take_length]at fl
    go_wp2
    go_ret
    exact⟨rfl,_,wr,rfl,⟨kr,hBr⟩,fl.out (Nat.le_refl _) (Nat.le_refl _)⟩
  | succ k=>
    have hjn:j<n:=by omega
    have tj:decide (2*(j:Int)<2*n)=true:=by simp;omega
    have tj2:decide (j<n)=true:=by simpa using hjn
    have wj:IntKind.u32.wrap (2*(j:Int)+2)=2*j+2:=by rw [IntKind.wrap_u32];omega
    have hjx:j<ps.length:=by rw [←N.out];exact hjn
    have hL:=LJ.out
    rw [flat2_drop ps j hjx]at hL
    obtain⟨b1,b',rfl,hq1,hL1⟩:=hL.inv
    obtain⟨b2,b3,rfl,hq2,hL2⟩:=hL1.inv
    have Q1:=Lib.hid hq1
    have Q2:=Lib.hid hq2
    have L2:=Lib.hid hL2
    clear hL hL1 hL2 LJ hq1 hq2
    simp only [List.append_assoc]at hBr
    go_wp2_with fail
    refine(Q1.out g (b2++(b3++r)) _ hBr).mono ?_
    rintro e w4 ⟨x,rfl,h4,hx⟩
    go_wp2_with fail
    refine(Q2.out g (b3++r) _ h4.2).mono ?_
    rintro e w5 ⟨y,rfl,h5,hy⟩
    have hkk:=OK.out.kinds _ (List.getElem_mem hjx)
    obtain⟨T,u,L,rfl,hKL,hKO⟩:=key_of (hx.here.leaf hkk) hkk
    have KO:=Lib.hid hKO
    have h45:=h4.1.trans h5.1
    clear hKO
    go_wp2_with fail
    refine(keyed_is KO.out u _).mono ?_
    rintro e w6 ⟨rfl,k6⟩
    have e1:=kr.size
    have e2:=h4.1.size
    have e3:=h5.1.size
    have fl6:=(fl.keep h45 (show w.heap.size≠g by omega) (fun b hb=>by omega)).keep k6 trivial (fun _ _=>trivial)
    have hlm:=lt_blk fl.choose_spec.choose_spec.1
    have hx6:Dep (fun b=>w.heap.size≤b∧b≠w.heap.size) w6 (fun w=>GV w ps[j].1 (.iface T u)):=
     ((hx.keep h5.1 (fun b _ hb=>by omega)).new k6).mono (fun b _ hb=>by omega)
    have hy6:Dep (fun b=>w.heap.size≤b∧b≠w.heap.size) w6 (fun w=>GV w ps[j].2 y):=
     (hy.new k6).mono (fun b _ hb=>by omega)
    have hnew:∀q∈ps.take j,rk q.1≠rk ps[j].1:=by
     have hnd:=OK.out.once
     intro q hq he
     obtain⟨i,hi,rfl⟩:=List.getElem_of_mem hq
     rw [List.length_take]at hi
     rw [List.getElem_take]at he
     exact List.pairwise_iff_getElem.1 hnd i j (by simp;omega) (by simpa using hjx) (by omega) (by simpa using he)
    obtain⟨w7,hup,k7,fl7⟩:=fl6.step 422 Tryz.underlying422 (fun q hq=>OK.out.kinds q (List.mem_of_mem_take hq)) hkk hnew hx6 hy6
    have UP:=Lib.hid hup
    rw [List.take_append_getElem hjx]at fl7
    clear hx hy hx6 hy6 hup hnew
    go_wp2_with (at_mapUpdate;refine wpList_mapUpdate_eq _ w7 rfl _ _ _ 422 rfl _ _ _ rfl rfl rfl UP.out ?_)
    go_roundg k
    case measure=>omega
    case rel=>
     refine⟨j+1,b3,by omega,congrArg _ (by omega),L2.out,?_,?_,fl7⟩
     ·exact((kr.trans h45).trans (k6.keep _)).then k7 (fun i hi _=>by omega)
     ·exact(h5.2.new k6).keep k7 (fun i hi=>by omega)
theorem map_is(g:Nat)(ps:List (V×V))(body r h:List UInt8)(hmax:2*ps.length≤1000)(hlen:2*ps.length≤body.length)(Hh:Hd 193 209 (2*ps.length) body h)(HR:ReadsL (flat2 ps) body)(ok:MapOk ps)
 (p:Addr) (hpg:p.block≠g) (w:World) (hc:w.cell? p=some (.map none)) (hf:w.frozen? p=false) (B:Buf w g (h++(body++r))):
 Calls Tryz.prog 128 #[.pointer (some p),.pointer (some ⟨g,0,none⟩)] w fun e w'=>e=.returned .nilIface∧∃sl w1,w'=w1.setCell p sl∧Adv g r w w1∧MapD (fun k=>w.heap.size≤k) w1 ps sl:=by
 have HP:=Lib.hid hpg
 clear hpg
 have hlt:=cell_lt hc
 have hcast:(2*(ps.length:Int))=((2*ps.length:Nat):Int):=by omega
 have HC:=Lib.hid hcast
 clear hcast
 go_enter Tryz.func128,Tryz.ntmps128
 go_wp2_with fail
 refine(mapHead g (2*ps.length) body r h Hh hlen (by omega) _ B).mono ?_
 rintro e w1 ⟨rfl,h1⟩
 rw [←HC.out]
 go_wp2_with fail
 refine(mapItems_is g p HP.out ps body r (by omega) HR ok w1 (h1.1.cell hc HP.out) ((h1.1.free hlt HP.out).trans hf) h1.2).mono ?_
 rintro e w2 ⟨rfl,sl,w3,rfl,k3,hd⟩
 have hs:=h1.1.size
 go_wp2
 go_ret
 exact⟨rfl,sl,w3,rfl,h1.trans k3,hd.mono (fun k _ hk=>by omega)⟩
theorem range_map(w:World)(t k e:TypeId)(bm:Nat)(es:Array MapEntry)(clock:Nat)(ht:Tryz.prog.underlying t=some (.map k e))(hb:w.heap[bm]? =some (.map es clock)):
 (Instr.range t (.map (some bm))).run Tryz.prog w=.ok (.pointer (some ⟨w.heap.size,0,none⟩)) (w.alloc (.mapIter (some bm) clock #[] clock)):=run_range_map w t k e bm es clock ht hb
theorem next_map(w:World)(r bm since c0:Nat)(seen:Array Nat)(es:Array MapEntry)(clock:Nat)(hr:w.heap[r]? =some (.mapIter (some bm) since seen c0))(hb:w.heap[bm]? =some (.map es clock))(hold:∀x∈es.toList,x.born<since)(hsc:since≤c0):
 ((leftOf es seen).size=0∧∀ty,(Instr.next (.pointer (some ⟨r,0,none⟩)) false ty).run Tryz.prog w=.ok (.tuple #[.bool false]) w)∨
 ∃e∈(leftOf es seen).toList,∃w1:World,(∀ty,(Instr.next (.pointer (some ⟨r,0,none⟩)) false ty).run Tryz.prog w=.ok (.tuple #[.bool true,e.key,e.val]) w1)∧w1.heap[r]? =some (.mapIter (some bm) since (seen.push e.born) clock)∧Keep (fun k=>k≠r) w w1:=by
 have hlt:=lt_blk hr
 simp only [Instr.next,getObj,Sem.run_bind,Sem.run,hr,hb,Result.andThen,next_test_false seen es since c0 hold hsc,Bool.false_eq_true,if_false]
 unfold leftOf
 have hmem:∀x∈(Array.filter (fun e=>!seen.contains e.born) es).toList,x.born<since:=fun x hx=>hold x (by simp at hx ⊢;exact hx.1)
 generalize Array.filter (fun e=>!seen.contains e.born) es=L at hmem ⊢
 have e1:L.filter (fun x=>decide (x.born<since))=L:=Array.filter_eq_self.2 (fun x hx=>by simpa using hmem x (by simpa using hx))
 have e2:L.filter (fun x=>decide (x.born≥since))=#[]:=by
  rw [Array.filter_eq_empty_iff]
  intro x hx
  have:=hmem x (by simpa using hx)
  simp
  omega
 simp only [e1,e2,Array.append_empty]
 by_cases h0:L.size=0
 ·left
  have:L=#[]:=Array.eq_empty_of_size_eq_zero h0
  subst this
  refine⟨rfl,fun ty=>?_⟩
  simp [choose,Sem.run,Question.forced]
 ·right
  have hne:L.isEmpty=false:=by simp [Array.isEmpty,h0]
  simp only [hne,Bool.false_eq_true,if_false,Array.empty_append,Array.size_map]
  have hch:∃(j:Nat) (w1:World),j<L.size∧w1.heap=w.heap∧Keep (fun _=>True) w w1∧(choose (Question.mapNext L.size)).run Tryz.prog w=.ok j w1:=by
   by_cases hf:L.size≤1
   ·exact⟨0,w,by omega,rfl,Keep.refl _ _,by simp [choose,Sem.run,Question.forced,hf]⟩
   ·exact⟨_,w.drew,Nat.mod_lt _ (by omega),rfl,(Keep.refl _ _).drew,by
     simp only [choose,Sem.run,Question.forced,decide_eq_true_eq,hf,if_false,Question.cut]
     rfl⟩
  obtain⟨j,w1,hj,hh,hk,hrun⟩:=hch
  refine⟨L[j],by simp,{ w1 with heap:=w1.heap.setIfInBounds r (.mapIter (some bm) since (seen.push L[j].born) clock) },fun ty=>?_,?_,?_⟩
  ·have hr1:w1.heap[r]? =some (.mapIter (some bm) since seen c0):=by rw [hh];exact hr
   simp only [hrun,Array.getElem?_map,Array.getElem?_eq_getElem hj,Option.map_some,Sem.run_bind,setObj,Sem.run,Result.andThen]
   rw [hr1]
   rfl
  ·simp [hh,hlt]
  ·exact⟨hk.os,hk.tape,hk.output,by simp [hh],fun k hk hne=>by simp [hh,Array.getElem?_setIfInBounds_ne (Ne.symm hne)]⟩
theorem entry_map(w:World)(r bm since:Nat)(seen:Array Nat)(es:Array MapEntry)(clock:Nat)(e:MapEntry)(hr:w.heap[r]? =some (.mapIter (some bm) since (seen.push e.born) clock))(hb:w.heap[bm]? =some (.map es clock))(he:e∈es.toList)(hn:(es.toList.map (·.born)).Nodup):
 (Instr.entry (.pointer (some ⟨r,0,none⟩))).run Tryz.prog w=.ok (.tuple #[e.key,e.val]) w:=by
 have hf:es.find? (·.born==e.born)=some e:=by rw [←Array.find?_toList];exact find_born e es.toList hn he
 simp only [Instr.entry,getObj,Sem.run_bind,Sem.run,hr,hb,Result.andThen,Array.back?_push,bne_self_eq_false,Bool.false_eq_true,if_false,hf]
 rfl
theorem len_map(w:World)(bm:Nat)(es:Array MapEntry)(clock:Nat)(hb:w.heap[bm]? =some (.map es clock)):(Builtin.len_ #[277] 3 #[.map (some bm)]).run Tryz.prog w=.ok (goInt es.size) w:=by
 simp [Builtin.len_,getObj,Sem.run,hb]
def TextE(e:MapEntry):Prop:=∃s,e.key=.iface 9 (.string s)
def OtherE(e:MapEntry):Prop:=∃T u,e.key=.iface T u∧T≠9∧T≠158
theorem mapItems_other(bm clock:Nat)(es:Array MapEntry)(w:World)(hb:w.heap[bm]? =some (.map es clock))(hbo:Born es clock)(hall:∀e∈es.toList,TextE e∨OtherE e)(hex:∃e∈es.toList,OtherE e):
 Calls Tryz.prog 220 #[.map (some bm)] w fun e w'=>e=.returned (.tuple #[.iface 277 (.map (some bm)),.nilIface])∧New w w':=by
 have hpos:((es.size:Int)==0)=false:=by
  obtain⟨e,he,_⟩:=hex
  rw [beq_eq_false_iff_ne]
  have:0<es.toList.length:=List.length_pos_of_mem he
  simp at this;omega
 have hrg:=range_map w 277 20 20 bm es clock Tryz.underlying277 hb
 have hln:=len_map w bm es clock hb
 have BO:=Lib.hid hbo
 have AL:=Lib.hid hall
 have EX:=Lib.hid hex
 have HB:=Lib.hid hb
 clear hbo hall hex
 go_enter Tryz.func220,Tryz.ntmps220
 go_wp2
 go_step3
 go_wp2
 go_step3
 go_wp2
 have hlt:=lt_blk HB.out
 go_loopg [4] es.size (fun k s4 wr=>s4=.bool true∧New w wr∧∃seen c,wr.heap[w.heap.size]? =some (.mapIter (some bm) clock seen c)∧clock≤c∧(leftOf es seen).size≤k∧∀e∈es.toList,seen.contains e.born=true→TextE e)
 case atStart=>
  refine⟨rfl,(Keep.refl _ _).alloc _,#[],clock,blk_new _ _,Nat.le_refl _,?_,fun e _ h=>by simp at h⟩
  unfold leftOf
  exact Array.size_filter_le ..
 case round=>
  obtain⟨rfl,kr,seen,c,hit,hcl,hleft,htx⟩:=hrel
  have hbr:=kr.blk HB.out trivial
  have TX:=Lib.hid htx
  have LF:=Lib.hid hleft
  clear htx hleft
  rcases next_map wr w.heap.size bm clock c seen es clock hit hbr BO.out.2 hcl with⟨h0,hnx⟩ | ⟨e,he,w1,hnx,hit1,k1⟩
  ·exfalso
   obtain⟨e,he,T,u,hk,h9,h1⟩:=EX.out
   obtain⟨s,hs⟩:=TX.out e he (all_seen es seen h0 e he)
   rw [hk]at hs
   injection hs with h _
   exact h9 h
  ·have hem:=mem_left he
   have hsh:=left_shrinks es seen e he
   have hb1:=k1.blk hbr (by omega)
   have hen:=entry_map w1 w.heap.size bm clock seen es clock e hit1 hb1 hem.1 BO.out.1
   rcases AL.out e hem.1 with⟨s,hs⟩ | ⟨T,u,hk,h9,h158⟩
   ·rw [hs]at hen hnx
    have HS:=Lib.hid hs
    clear hs
    go_wp2
    go_roundg (leftOf es (seen.push e.born)).size
    case measure=>have:=LF.out;omega
    case rel=>
     refine⟨rfl,kr.then k1 (fun i hi _=>by omega),seen.push e.born,clock,hit1,Nat.le_refl _,Nat.le_refl _,fun e' he' hc'=>?_⟩
     rw [contains_push]at hc'
     rcases Bool.or_eq_true_iff.1 hc' with h | h
     ·exact TX.out e' he' h
     ·obtain rfl:=born_inj BO.out.1 he' hem.1 (beq_iff_eq.1 h)
      exact⟨s,HS.out⟩
   ·rw [hk]at hen hnx
    clear hk
    go_wp2
    rw [Exit.noGoto_ret]
    go_ret2
    exact⟨rfl,kr.then k1 (fun i hi _=>by omega)⟩
theorem mapItems_nil(bm clock:Nat)(w:World)(hb:w.heap[bm]? =some (.map #[] clock)):
 Calls Tryz.prog 220 #[.map (some bm)] w fun e w'=>e=.returned (.tuple #[.iface 277 (.map (some bm)),.nilIface])∧New w w':=by
 have hln:=len_map w bm #[] clock hb
 go_enter Tryz.func220,Tryz.ntmps220
 go_wp2
 go_step3
 go_wp2
 rw [Exit.noGoto_ret]
 go_ret2
 exact⟨rfl,Keep.refl _ _⟩
theorem ba_ne{a b:ByteArray}(h:a≠b):(a==b)=false:=by
 cases a with
 | mk a=>
   cases b with
   | mk b=>
     have hab:a≠b:=fun e=>h (by rw [e])
     show(a==b)=false
     rw [beq_eq_false_iff_ne]
     exact hab
theorem update_text(w:World)(t kt:TypeId)(ht:Tryz.prog.underlying t=some (.map kt 20))(hkt:Tryz.prog.underlying kt=some .string)(r:Nat)(es:Array MapEntry)(clock:Nat)(hr:w.heap[r]? =some (.map es clock))(s:ByteArray)(v:Value)
 (hk:∀e∈es.toList,∃s',e.key=.string s'∧s≠s'):
 ∃w',(Instr.mapUpdate t (.map (some r)) (.string s) v).run Tryz.prog w=.ok () w'∧w'.heap[r]? =some (.map (es.push { key:=.string s,val:=v,born:=clock }) (clock+1))∧Keep (fun k=>k≠r) w w':=by
 have hlt:=lt_blk hr
 have hf:∀(l:List MapEntry) (i:Nat),(∀e∈l,∃s',e.key=.string s'∧s≠s')→Instr.findNow .string (.string s) l i=some none:=by
  intro l
  induction l with
  | nil=>intro i _;rfl
  | cons e l ih=>
    intro i h
    obtain⟨s',hs',hne⟩:=h e (List.mem_cons_self ..)
    have:(s==s')=false:=ba_ne hne
    simp only [Instr.findNow,hs',Instr.sameNow,this]
    exact ih (i+1) (fun e' he'=>h e' (List.mem_cons_of_mem _ he'))
 have hc:(Instr.checkKey false 10000 kt (.string s)).run Tryz.prog w=.ok () w:=by
  show(Instr.checkKey false (9999+1) kt (.string s)).run Tryz.prog w=_
  have gen:∀d,(Instr.checkKey false (d+1) kt (.string s)).run Tryz.prog w=.ok () w:=fun d=>by
   simp [Instr.checkKey,run_underlying hkt,Result.andThen]
  exact gen 9999
 have hfk:(Instr.findKey kt (.string s) es.toList).run Tryz.prog w=.ok none w:=by
  unfold Instr.findKey
  simp only [Sem.run_bind,run_underlying hkt,Result.andThen_ok,hf _ 0 hk]
  rfl
 refine⟨{ w with heap:=w.heap.setIfInBounds r (.map (es.push { key:=.string s,val:=v,born:=clock }) (clock+1)) },?_,?_,⟨rfl,rfl,rfl,by simp,fun k hk hne=>?_⟩⟩
 ·simp only [Instr.mapUpdate,Sem.run_bind,run_underlying ht,Result.andThen_ok,getObj,Sem.run,hr,hc,hfk,setObj]
 ·simp [hlt]
 ·simp [Array.getElem?_setIfInBounds_ne (Ne.symm hne)]
section
variable {α β:Type}
theorem perm_lift(f:α→β){l1 l2:List β}(h:l1.Perm l2):∀(zs:List α),zs.map f=l1→∃zs',zs.Perm zs'∧zs'.map f=l2:=by
 induction h with
 | nil=>intro zs h;exact⟨zs,.refl _,h⟩
 | cons x h ih=>
   intro zs hz
   cases zs with
   | nil=>simp at hz
   | cons z zs=>
     simp only [List.map_cons,List.cons.injEq]at hz
     obtain⟨zs',hp,hm⟩:=ih zs hz.2
     exact⟨z::zs',.cons z hp,by rw [List.map_cons,hz.1,hm]⟩
 | swap x y l=>
   intro zs hz
   match zs,hz with
   | a::b::zs,hz=>
     simp only [List.map_cons,List.cons.injEq]at hz
     exact⟨b::a::zs,.swap b a zs,by rw [List.map_cons,List.map_cons,hz.1,hz.2.1,hz.2.2]⟩
 | trans h1 h2 ih1 ih2=>
   intro zs hz
   obtain⟨z1,p1,m1⟩:=ih1 zs hz
   obtain⟨z2,p2,m2⟩:=ih2 z1 m1
   exact⟨z2,p1.trans p2,m2⟩
end
theorem filter_perm(p:MapEntry→Bool)(e:MapEntry)(hp:p e=true):∀(l:List MapEntry),(l.map (·.born)).Nodup→e∈l→(l.filter p).Perm (e::l.filter (fun x=>p x&&!(x.born==e.born)))
 | x::l,hn,he=>by
   rw [List.map_cons,List.nodup_cons]at hn
   by_cases hx:x=e
   ·subst hx
    have:l.filter (fun y=>p y&&!(y.born==x.born))=l.filter p:=List.filter_congr fun y hy=>by
     have:(y.born==x.born)=false:=by
      rw [beq_eq_false_iff_ne]
      intro h
      exact hn.1 (h▸List.mem_map.2 ⟨y,hy,rfl⟩)
     simp [this]
    simp [hp,this]
   ·have hel:e∈l:=by
     rcases List.mem_cons.1 he with h | h
     ·exact absurd h.symm hx
     ·exact h
    have hb:(x.born==e.born)=false:=by
     rw [beq_eq_false_iff_ne]
     intro h
     exact hn.1 (h▸List.mem_map.2 ⟨e,hel,rfl⟩)
    have ih:=filter_perm p e hp l hn.2 hel
    by_cases hpx:p x=true
    ·simp only [List.filter_cons,hpx,hb,if_true,Bool.not_false,Bool.and_true]
     exact(ih.cons x).trans (.swap e x _)
    ·have hpx:p x=false:=by simpa using hpx
     simp only [List.filter_cons,hpx,Bool.false_and,Bool.false_eq_true,if_false]
     exact ih
theorem left_perm(es:Array MapEntry)(seen:Array Nat)(e:MapEntry)(hn:(es.toList.map (·.born)).Nodup)(he:e∈(leftOf es seen).toList):(leftOf es seen).toList.Perm (e::(leftOf es (seen.push e.born)).toList):=by
 obtain⟨h1,h2⟩:=mem_left he
 have:=filter_perm (fun x=>!seen.contains x.born) e (by simpa using h2) es.toList hn h1
 unfold leftOf
 rw [Array.toList_filter,Array.toList_filter]
 have hc:(fun x:MapEntry=>!(seen.push e.born).contains x.born)=fun x=>!seen.contains x.born&&!(x.born==e.born):=by
  funext x
  rw [contains_push,Bool.not_or]
 rw [hc]
 exact this
def Picked(w:World)(mb:Nat)(es:Array MapEntry)(seen:Array Nat):Prop:=
 ∃es2 c2 picked,w.heap[mb]? =some (.map es2 c2)∧Born es2 c2∧es.toList.Perm (picked++(leftOf es seen).toList)∧es2.toList.map (fun e=>(Value.iface 9 e.key,e.val))=picked.map (fun e=>(e.key,e.val))
theorem Picked.keep{ok:Nat→Prop}{w w':World}{mb:Nat}{es:Array MapEntry}{seen:Array Nat}(h:Picked w mb es seen)(k:Keep ok w w')(ho:ok mb):Picked w' mb es seen:=by
 obtain⟨es2,c2,picked,hm,hr⟩:=h
 exact⟨es2,c2,picked,k.blk hm ho,hr⟩
theorem Picked.step{w:World}{mb:Nat}{es:Array MapEntry}{seen:Array Nat}(h:Picked w mb es seen)(hn:(es.toList.map (·.born)).Nodup)(hkn:(es.toList.map (·.key)).Nodup)(hall:∀e∈es.toList,TextE e){e:MapEntry}(he:e∈(leftOf es seen).toList){s:ByteArray}(hs:e.key=.iface 9 (.string s)):
 ∃w',(Instr.mapUpdate 96 (.map (some mb)) (.string s) e.val).run Tryz.prog w=.ok () w'∧Keep (fun k=>k≠mb) w w'∧Picked w' mb es (seen.push e.born):=by
 obtain⟨es2,c2,picked,hm,hb,hp,hq⟩:=h
 have hp2:es.toList.Perm ((picked++[e])++(leftOf es (seen.push e.born)).toList):=by
  rw [List.append_assoc]
  exact hp.trans ((left_perm es seen e hn he).append_left picked)
 have hnd:((picked++[e]).map (·.key)).Nodup:=by
  have:=(hp2.map (·.key)).nodup hkn
  rw [List.map_append]at this
  exact(List.nodup_append.1 this).1
 rw [List.map_append,List.nodup_append]at hnd
 have hks:∀x∈es2.toList,∃s',x.key=.string s'∧s≠s':=fun x hx=>by
  have hx2:(Value.iface 9 x.key,x.val)∈picked.map (fun e=>(e.key,e.val)):=hq▸List.mem_map.2 ⟨x,hx,rfl⟩
  obtain⟨y,hy,hxy⟩:=List.mem_map.1 hx2
  have hye:y∈es.toList:=hp.mem_iff.2 (List.mem_append.2 (.inl hy))
  obtain⟨s',hs'⟩:=hall y hye
  have hk:y.key=.iface 9 x.key:=congrArg Prod.fst hxy
  rw [hs']at hk
  injection hk with _ hk
  refine⟨s',hk.symm,fun he'=>?_⟩
  refine hnd.2.2 y.key (List.mem_map.2 ⟨y,hy,rfl⟩) e.key (by simp) ?_
  rw [hs',hs,he']
 obtain⟨w',hrun,hm',kk⟩:=update_text w 96 9 Tryz.underlying96 Tryz.underlying9 mb es2 c2 hm s e.val hks
 refine⟨w',hrun,kk,_,_,picked++[e],hm',born_push hb _ _,hp2,?_⟩
 rw [Array.toList_push,List.map_append,List.map_append,hq]
 simp [hs]
theorem mapItems_text(bm clock:Nat)(es:Array MapEntry)(w:World)(hb:w.heap[bm]? =some (.map es clock))(hbo:Born es clock)(hall:∀e∈es.toList,TextE e)(hne:es.toList≠[])(hkn:(es.toList.map (·.key)).Nodup):
 Calls Tryz.prog 220 #[.map (some bm)] w fun e w'=>∃mb es2 c2 picked,e=.returned (.tuple #[.iface 96 (.map (some mb)),.nilIface])∧New w w'∧w.heap.size≤mb∧w'.heap[mb]? =some (.map es2 c2)∧Born es2 c2∧es.toList.Perm picked∧es2.toList.map (fun e=>(Value.iface 9 e.key,e.val))=picked.map (fun e=>(e.key,e.val)):=by
 have hpos:((es.size:Int)==0)=false:=by
  rw [beq_eq_false_iff_ne]
  have:0<es.toList.length:=List.length_pos_iff.2 hne
  simp at this;omega
 have hrg:=range_map w 277 20 20 bm es clock Tryz.underlying277 hb
 have hln:=len_map w bm es clock hb
 have BO:=Lib.hid hbo
 have AL:=Lib.hid hall
 have KN:=Lib.hid hkn
 have HB:=Lib.hid hb
 clear hbo hall hkn hne
 go_enter Tryz.func220,Tryz.ntmps220
 go_wp2
 go_step3
 go_wp2
 go_step3
 go_wp2
 have hlt:=lt_blk HB.out
 go_loopg [4] es.size (fun k s4 wr=>s4=.bool true∧New w wr∧∃seen c,wr.heap[w.heap.size]? =some (.mapIter (some bm) clock seen c)∧clock≤c∧(leftOf es seen).size≤k)
 case atStart=>
  refine⟨rfl,(Keep.refl _ _).alloc _,#[],clock,blk_new _ _,Nat.le_refl _,?_⟩
  unfold leftOf
  exact Array.size_filter_le ..
 case round=>
  obtain⟨rfl,kr,seen,c,hit,hcl,hleft⟩:=hrel
  have hbr:=kr.blk HB.out trivial
  have LF:=Lib.hid hleft
  clear hleft
  rcases next_map wr w.heap.size bm clock c seen es clock hit hbr BO.out.2 hcl with⟨h0,hnx⟩ | ⟨e,he,w1,hnx,hit1,k1⟩
  ·have hln2:=len_map wr bm es clock hbr
   have hmk:=makeMap_n 96 9 20 Tryz.underlying96 .i64 es.size wr
   have kA:New wr (wr.alloc (.map #[] 0)):=(Keep.refl _ _).alloc _
   have hba:=kA.blk hbr trivial
   have hrg2:=range_map (wr.alloc (.map #[] 0)) 277 20 20 bm es clock Tryz.underlying277 hba
   have h0':=Lib.hid h0
   clear h0 hln hrg
   go_wp2
   have k0:=((Keep.refl (fun _=>True) wr).alloc (.map #[] 0)).alloc (.mapIter (some bm) clock #[] clock)
   obtain⟨wo,rfl⟩:∃wo:World,wo=wr:=⟨_,rfl⟩
   have hws:=kr.size
   have hbo:=lt_blk hbr
   clear hln2 hmk kA hba hrg2 hit hnx hcl
   go_loopg [7] es.size (fun k s7 w2=>New wo w2∧∃seen2 c2,w2.heap[wo.heap.size+1]? =some (.mapIter (some bm) clock seen2 c2)∧clock≤c2∧(leftOf es seen2).size≤k∧Picked w2 wo.heap.size es seen2)
   case atStart=>
    refine⟨k0,#[],clock,?_,Nat.le_refl _,?_,#[],0,[],?_,⟨by simp,by simp⟩,?_,rfl⟩
    ·exact(by simpa using blk_new (wo.alloc (.map #[] 0)) (.mapIter (some bm) clock #[] clock))
    ·unfold leftOf
     exact Array.size_filter_le ..
    ·exact blk_alloc (blk_new wo _) _
    ·have:leftOf es #[]=es:=by
      unfold leftOf
      exact Array.filter_eq_self.2 (by simp)
     rw [this]
     exact List.Perm.refl _
   case round=>
    obtain⟨ko,seen2,c2,hit2,hcl2,hleft2,hpk⟩:=hrel
    have hbr2:=ko.blk hbr trivial
    have LF2:=Lib.hid hleft2
    have PK:=Lib.hid hpk
    clear hleft2 hpk
    rcases next_map _ (wo.heap.size+1) bm clock c2 seen2 es clock hit2 hbr2 BO.out.2 hcl2 with⟨h0,hnx⟩ | ⟨e,he,w1,hnx,hit1,k1⟩
    ·have H0:=Lib.hid h0
     clear h0
     go_wp2
     rw [Exit.noGoto_ret]
     go_ret2
     obtain⟨es2,c3,picked,p1,p2,p3,p4⟩:=PK.out
     have hnil:(leftOf es seen2).toList=[]:=List.eq_nil_of_length_eq_zero (by simpa using H0.out)
     rw [hnil,List.append_nil]at p3
     exact⟨_,es2,c3,picked,rfl,kr.trans ko,hws,p1,p2,p3,p4⟩
    ·have hem:=mem_left he
     have hsh:=left_shrinks es seen2 e he
     have hb1:=k1.blk hbr2 (by omega)
     have hen:=entry_map w1 (wo.heap.size+1) bm clock seen2 es clock e hit1 hb1 hem.1 BO.out.1
     obtain⟨s,hs⟩:=AL.out e hem.1
     have pk1:=PK.out.keep k1 (show wo.heap.size≠wo.heap.size+1 by omega)
     obtain⟨w4,hup,k4,pk4⟩:=pk1.step BO.out.1 KN.out AL.out he hs
     rw [hs]at hen hnx
     have UP:=Lib.hid hup
     have PK4:=Lib.hid pk4
     clear hs hup pk4 pk1
     go_wp2_with (at_mapUpdate;refine wpList_mapUpdate_eq _ w4 rfl _ _ _ 96 rfl _ _ _ rfl rfl rfl UP.out ?_)
     go_roundg (leftOf es (seen2.push e.born)).size
     case measure=>have:=LF2.out;omega
     case rel=>exact⟨(ko.then k1 (fun i hi _=>by omega)).then k4 (fun i hi _=>by omega),seen2.push e.born,clock,k4.blk hit1 (by omega),Nat.le_refl _,Nat.le_refl _,PK4.out⟩
  ·have hem:=mem_left he
   have hsh:=left_shrinks es seen e he
   have hb1:=k1.blk hbr (by omega)
   have hen:=entry_map w1 w.heap.size bm clock seen es clock e hit1 hb1 hem.1 BO.out.1
   obtain⟨s,hs⟩:=AL.out e hem.1
   rw [hs]at hen hnx
   clear hs
   go_wp2
   go_roundg (leftOf es (seen.push e.born)).size
   case measure=>have:=LF.out;omega
   case rel=>exact⟨rfl,kr.then k1 (fun i hi _=>by omega),seen.push e.born,clock,hit1,Nat.le_refl _,Nat.le_refl _⟩
theorem zip_gv{w:World}:∀{es:List MapEntry} {ps:List (V×V)},es.length=ps.length→GVs w (flat2 ps) (es.flatMap fun e=>[e.key,e.val])→∀z∈es.zip ps,GV w z.2.1 z.1.key∧GV w z.2.2 z.1.val
 | [],_,_,_,z,hz=>by simp at hz
 | e::es,[],h,_,_,_=>by simp at h
 | e::es,q::ps,h,hg,z,hz=>by
   have h1:GVs w (q.1::q.2::flat2 ps) (e.key::e.val::es.flatMap fun e=>[e.key,e.val]):=hg
   rcases List.mem_cons.1 (by simpa using hz)with rfl | hz
   ·exact⟨h1.inv.1,h1.inv.2.inv.1⟩
   ·exact zip_gv (by simpa using h) h1.inv.2.inv.2 z hz
theorem gv_zip{w:World}:∀(zs:List (MapEntry×(V×V))),(∀z∈zs,GV w z.2.1 z.1.key∧GV w z.2.2 z.1.val)→GVs w (flat2 (zs.map Prod.snd)) (zs.flatMap fun z=>[z.1.key,z.1.val])
 | [],_=>.nil
 | z::zs,h=>by
   have h0:=h z (List.mem_cons_self ..)
   exact h0.1.cons (h0.2.cons (gv_zip zs fun y hy=>h y (List.mem_cons_of_mem _ hy)))
theorem flat_key:∀(l:List MapEntry),(l.flatMap fun e=>[Value.iface 9 e.key,e.val])=(l.map fun e=>(Value.iface 9 e.key,e.val)).flatMap fun p=>[p.1,p.2]
 | []=>rfl
 | e::l=>by simp [flat_key l]
theorem flat_key2:∀(zs:List (MapEntry×(V×V))),((zs.map Prod.fst).map fun e=>(e.key,e.val)).flatMap (fun p=>[p.1,p.2])=zs.flatMap fun z=>[z.1.key,z.1.val]
 | []=>rfl
 | z::zs=>by
   have h:=flat_key2 zs
   simp at h ⊢
   exact h
theorem text_or{w:World}{v:V}{x:Value}(h:GLeaf w v x)(hk:KeyK v.kind):(∃s,x=.iface 9 (.string s))∨∃T u,x=.iface T u∧T≠9∧T≠158:=by
 cases h with
 | str t o h=>exact .inl ⟨_,rfl⟩
 | sym t o h=>exact .inl ⟨_,rfl⟩
 | null o=>simp [KeyK,V.kind]at hk
 | _=>exact .inr ⟨_,_,rfl,by decide,by decide⟩
theorem flat2_count(es:List MapEntry):(es.flatMap fun e=>[e.key,e.val]).length=2*es.length:=by
 induction es with
 | nil=>rfl
 | cons e es ih=>simp [ih];omega
theorem readMapItems_is{ok:Nat→Prop}(ps:List (V×V))(ho:MapOk ps)(s:Value)(w:World)(H:MapD ok w ps s)(o:Int):
 Calls Tryz.prog 220 #[s] w fun e w'=>∃x,e=.returned (.tuple #[x,.nilIface])∧New w w'∧Dep (fun k=>ok k∨w.heap.size≤k) w' (fun w=>GV w (.mk 22 0 [] (flat2 ps) o []) x):=by
 obtain⟨m,es,clock,rfl,hbo,hd⟩:=H
 obtain⟨hb,hg⟩:=hd.here
 have hlen:es.toList.length=ps.length:=by
  have:=hg.len
  rw [flat2_len,flat2_count]at this
  omega
 have hz:=zip_gv hlen hg
 have key:∀j (hj:j<ps.length) (he:j<es.toList.length),GLeaf w ps[j].1 es.toList[j].key:=fun j hj he=>by
  have hm:(es.toList[j],ps[j])∈es.toList.zip ps:=by
   rw [List.mem_iff_getElem]
   exact⟨j,by have h:=he;simp at h ⊢;omega,by simp⟩
  exact(hz _ hm).1.leaf (ho.kinds _ (List.getElem_mem hj))
 have hor:∀e∈es.toList,TextE e∨OtherE e:=fun e he=>by
  obtain⟨j,hj,rfl⟩:=List.getElem_of_mem he
  have hjp:j<ps.length:=by omega
  exact text_or (key j hjp hj) (ho.kinds _ (List.getElem_mem hjp))
 have any:∀w',New w w'→Dep (fun k=>ok k∨w.heap.size≤k) w' (fun w=>GV w (.mk 22 0 [] (flat2 ps) o []) (.iface 277 (.map (some m)))):=fun w' k=>
  ((hd.new k).mono (fun _ _ h=>.inl h)).imp fun W hW=>.map hW.1 hbo (List.Perm.refl ps) hW.2 .nil
 by_cases hne:es.toList=[]
 ·have:es=#[]:=by cases es;simp_all
  subst this
  exact(mapItems_nil m clock w hb).mono fun e w' ⟨he,k⟩=>⟨_,he,k,any w' k⟩
 by_cases hex:∃e∈es.toList,OtherE e
 ·exact(mapItems_other m clock es w hb hbo hor hex).mono fun e w' ⟨he,k⟩=>⟨_,he,k,any w' k⟩
 have hall:∀e∈es.toList,TextE e:=fun e he=>(hor e he).resolve_right fun h=>hex ⟨e,he,h⟩
 have hkn:(es.toList.map (·.key)).Nodup:=by
  rw [List.nodup_iff_pairwise_ne,List.pairwise_iff_getElem]
  intro i j hi hj hij heq
  simp only [List.length_map]at hi hj
  simp only [List.getElem_map]at heq
  have hki:=ho.kinds _ (List.getElem_mem (show i<ps.length by omega))
  have hkj:=ho.kinds _ (List.getElem_mem (show j<ps.length by omega))
  obtain⟨T,u,L,e1,kl,ko⟩:=key_of (key i (by omega) hi) hki
  obtain⟨T',u',L',e1',kl',ko'⟩:=key_of (key j (by omega) hj) hkj
  rw [e1,e1']at heq
  injection heq with h1 h2
  subst h1;subst h2
  have:L=L':=Option.some.inj (kl.lits.symm.trans kl'.lits)
  subst this
  have hr:=ko.inj ko'
  exact List.pairwise_iff_getElem.1 ho.once i j (by simp;omega) (by simp;omega) hij (by simpa using hr)
 refine(mapItems_text m clock es w hb hbo hall hne hkn).mono ?_
 rintro e w' ⟨mb,es2,c2,picked,rfl,k,hmb,hm2,hb2,hp,hq⟩
 refine⟨_,rfl,k,?_⟩
 have hfst:(es.toList.zip ps).map Prod.fst=es.toList:=by rw [List.map_fst_zip];omega
 have hsnd:(es.toList.zip ps).map Prod.snd=ps:=by rw [List.map_snd_zip];omega
 obtain⟨zs',hzp,hzf⟩:=perm_lift Prod.fst hp (es.toList.zip ps) hfst
 have hd1:Dep (fun k=>ok k∨w.heap.size≤k) w' (fun W=>W.heap[m]? =some (.map es clock)∧GVs W (flat2 ps) (es.toList.flatMap fun e=>[e.key,e.val])):=(hd.new k).mono (fun _ _ h=>.inl h)
 have hd2:Dep (fun k=>ok k∨w.heap.size≤k) w' (fun W=>W.heap[mb]? =some (.map es2 c2)):=Dep.blk hm2 (.inr hmb)
 refine(hd1.and hd2).imp fun W hW=>?_
 have hzW:=zip_gv hlen hW.1.2
 have hperm:ps.Perm (zs'.map Prod.snd):=by
  have:=hzp.map Prod.snd
  rwa [hsnd]at this
 refine .texts hW.2 hb2 hperm ?_ .nil
 rw [flat_key,hq,←hzf,flat_key2]
 exact gv_zip zs' fun z hz=>hzW z (hzp.mem_iff.2 hz)
theorem anyMap_is(g:Nat)(ps:List (V×V))(body r h:List UInt8)(hmax:2*ps.length≤1000)(hlen:2*ps.length≤body.length)(Hh:Hd 193 209 (2*ps.length) body h)(HR:ReadsL (flat2 ps) body)(ho:MapOk ps)(o:Int)(w:World)(B:Buf w g (h++(body++r))):
 Calls Tryz.prog 206 #[.pointer (some ⟨g,0,none⟩)] w fun e w'=>∃x,e=.returned (.tuple #[x,.nilIface])∧Got w g r (fun w=>GV w (.mk 22 0 [] (flat2 ps) o []) x) w':=by
 have hgl:=B.lt
 go_enter Tryz.func206,Tryz.ntmps206
 go_wp2_with fail
 refine(map_is g ps body r h hmax hlen Hh HR ho ⟨w.heap.size,0,none⟩ (by simp;omega) _ ((blk_cell (blk_new w _) 0).trans rfl) (blk_free (blk_new w _) 0) (B.new ((Keep.refl _ w).alloc _))).mono ?_
 rintro e w2 ⟨rfl,sl,w1,rfl,k1,hd⟩
 have hcl:=cell_arr (sl:=sl) B k1
 have hgot:=got_arr (sl:=sl) (φ:=fun _=>True) (Adv.look B (Keep.refl _ w)) k1 (fun _ _=>trivial)
 have hd2:MapD (fun k=>w.heap.size≤k) (w1.setCell ⟨w.heap.size,0,none⟩ sl) ps sl:=
  (hd.keep (ok':=fun k=>k≠w.heap.size) ((Keep.refl _ w1).setCell (.inr (by simp)) _) (fun k _ hk=>by simp at hk;omega)).mono (fun k _ hk=>by simp at hk;omega)
 go_wp2_with fail
 refine(readMapItems_is ps ho sl _ hd2 o).mono ?_
 rintro e w3 ⟨x,rfl,k3,hx⟩
 have hs:=hgot.1.1.size
 go_wp2
 go_ret2
 exact⟨_,rfl,hgot.1.trans (Adv.look hgot.1.2 k3),hx.mono (fun k _ hk=>by rcases hk with h | h<;>omega)⟩
theorem anyList_is(g:Nat)(kids:List V)(r all:List UInt8)(C:ArrC 127 g r all (fun s w=>ListV kids s w))(o:Int)(w:World)(B:Buf w g all):
 Calls Tryz.prog 205 #[.pointer (some ⟨g,0,none⟩)] w fun e w'=>∃x,e=.returned (.tuple #[x,.nilIface])∧Got w g r (fun w=>GV w (.mk 21 0 [] kids o []) x) w':=by
 have hgl:=B.lt
 go_enter Tryz.func205,Tryz.ntmps205
 go_wp2_with fail
 refine(C _ ⟨w.heap.size,0,none⟩ (by simp;omega) ((blk_cell (blk_new w _) 0).trans rfl) (blk_free (blk_new w _) 0) (B.new ((Keep.refl _ w).alloc _))).mono ?_
 rintro e w2 ⟨rfl,sl,w1,rfl,k1,hd⟩
 have hcl:=cell_arr (sl:=sl) B k1
 have hgot:=got_arr (sl:=sl) (Adv.look B (Keep.refl _ w)) k1 hd
 go_wp2
 go_ret2
 exact⟨_,rfl,hgot.1,hgot.2.imp fun W h=>h.gv o⟩
def RdC(f:FuncId)(g:Nat)(all r:List UInt8)(φ:Value→World→Prop):Prop:=
 ∀w0,Buf w0 g all→Calls Tryz.prog f #[.pointer (some ⟨g,0,none⟩)] w0 fun e w'=>∃y,e=.returned (.tuple #[y,.nilIface])∧Got w0 g r (φ y) w'
theorem Got.after{w w0 w1:World}{g:Nat}{r all:List UInt8}{φ:World→Prop}(h0:Adv g all w w0)(h:Got w0 g r φ w1):Got w g r φ w1:=
 ⟨h0.trans h.1,h.2.mono fun k _ hk=>Nat.le_trans h0.1.size hk⟩
theorem any_64(g:Nat)(r:List UInt8)(w:World)(B:Buf w g (64::r)):Calls Tryz.prog 132 #[.pointer (some ⟨g,0,none⟩)] w fun e w'=>e=.returned (.tuple #[.nilIface,.nilIface])∧Adv g r w w':=by
 go_enter Tryz.func132,Tryz.ntmps132
 go_wp2_with fail
 refine(tryReadNull_yes g r _ B).mono ?_
 rintro e w0 ⟨rfl,h0⟩
 go_wp2
 go_ret2
 exact⟨rfl,h0⟩
theorem any(c:UInt8)(f:FuncId)(T:TypeId)(hq:(c,f,T)∈[(86,109,4),(65,109,4),(66,109,4),(80,104,5),(96,103,117),(112,102,22),(82,102,22),(67,102,22),(128,93,26),(83,93,26),(68,93,26),(81,98,191),(97,99,195),(113,100,21),(84,100,21),(129,101,2),(85,101,2),(114,105,212),(130,106,216),(160,108,27),(176,108,27),(161,107,9),(177,107,9),(163,107,9),(179,107,9),(131,110,228),(152,203,309)])(g:Nat)(rest r:List UInt8)(φ:Value→World→Prop)(w:World)(B:Buf w g (c::rest))(C:RdC f g (c::rest) r φ):
 Calls Tryz.prog 132 #[.pointer (some ⟨g,0,none⟩)] w fun e w'=>∃y,e=.returned (.tuple #[.iface T y,.nilIface])∧Got w g r (φ y) w':=by
 have CC:=Lib.hid C
 clear C
 have c0:c≠64:=by rintro rfl;simp at hq
 simp only [List.mem_cons,List.mem_nil_iff,or_false,Prod.mk.injEq]at hq
 go_enter Tryz.func132,Tryz.ntmps132
 go_wp2_with fail
 refine(tryReadNull_no g _ _ _ B c0).mono ?_
 rintro e w0 ⟨rfl,h0⟩
 go_wp2_with fail
 refine(peekType_is g _ _ _ h0.2).mono ?_
 rintro e w1 ⟨rfl,k1⟩
 have h1:=h0.trans (Adv.look h0.2 k1)
 rcases hq with⟨rfl,rfl,rfl⟩ | ⟨rfl,rfl,rfl⟩ | ⟨rfl,rfl,rfl⟩ | ⟨rfl,rfl,rfl⟩ | ⟨rfl,rfl,rfl⟩ | ⟨rfl,rfl,rfl⟩ | ⟨rfl,rfl,rfl⟩ | ⟨rfl,rfl,rfl⟩ | ⟨rfl,rfl,rfl⟩ | ⟨rfl,rfl,rfl⟩ | ⟨rfl,rfl,rfl⟩ | ⟨rfl,rfl,rfl⟩ | ⟨rfl,rfl,rfl⟩ | ⟨rfl,rfl,rfl⟩ | ⟨rfl,rfl,rfl⟩ | ⟨rfl,rfl,rfl⟩ | ⟨rfl,rfl,rfl⟩ | ⟨rfl,rfl,rfl⟩ | ⟨rfl,rfl,rfl⟩ | ⟨rfl,rfl,rfl⟩ | ⟨rfl,rfl,rfl⟩ | ⟨rfl,rfl,rfl⟩ | ⟨rfl,rfl,rfl⟩ | ⟨rfl,rfl,rfl⟩ | ⟨rfl,rfl,rfl⟩ | ⟨rfl,rfl,rfl⟩ | ⟨rfl,rfl,rfl⟩
 all_goals as_aux_lemma=>
  go_wp2_with fail
  refine(CC.out _ h1.2).mono ?_
  rintro e w2 ⟨y,rfl,h2⟩
  go_wp2
  go_ret2
  exact⟨_,rfl,h2.after h1⟩
theorem anyV(c:UInt8)(f:FuncId)(hq:(c,f)∈[(224,204),(240,204),(69,205),(192,205),(208,205),(193,206),(209,206)])(g:Nat)(rest r:List UInt8)(φ:Value→World→Prop)(w:World)(B:Buf w g (c::rest))(C:RdC f g (c::rest) r φ):
 Calls Tryz.prog 132 #[.pointer (some ⟨g,0,none⟩)] w fun e w'=>∃y,e=.returned (.tuple #[y,.nilIface])∧Got w g r (φ y) w':=by
 have CC:=Lib.hid C
 clear C
 have c0:c≠64:=by rintro rfl;simp at hq
 simp only [List.mem_cons,List.mem_nil_iff,or_false,Prod.mk.injEq]at hq
 go_enter Tryz.func132,Tryz.ntmps132
 go_wp2_with fail
 refine(tryReadNull_no g _ _ _ B c0).mono ?_
 rintro e w0 ⟨rfl,h0⟩
 go_wp2_with fail
 refine(peekType_is g _ _ _ h0.2).mono ?_
 rintro e w1 ⟨rfl,k1⟩
 have h1:=h0.trans (Adv.look h0.2 k1)
 rcases hq with⟨rfl,rfl⟩ | ⟨rfl,rfl⟩ | ⟨rfl,rfl⟩ | ⟨rfl,rfl⟩ | ⟨rfl,rfl⟩ | ⟨rfl,rfl⟩ | ⟨rfl,rfl⟩
 all_goals as_aux_lemma=>
  go_wp2_with fail
  refine(CC.out _ h1.2).mono ?_
  rintro e w2 ⟨y,rfl,h2⟩
  go_wp2
  go_ret2
  exact⟨_,rfl,h2.after h1⟩
theorem wi8(n:Int):IntKind.i8.wrap n=if n % 256≥128 then n % 256-256 else n % 256:=by simp [IntKind.wrap,IntKind.bits,IntKind.signed]
theorem wi16(n:Int):IntKind.i16.wrap n=if n % 65536≥32768 then n % 65536-65536 else n % 65536:=by simp [IntKind.wrap,IntKind.bits,IntKind.signed]
theorem b1(n:Nat):(UInt8.ofNat (n/256 ^ 0 % 256)).toNat=n % 256:=by simp
theorem i8_of{n:Nat}(h:Fits 8 n):IntKind.i8.wrap ((n % 256:Nat):Int)=sgn n:=by
 obtain⟨h1,h2,h3⟩:=h
 rw [wi8]
 unfold sgn wrap64 at *
 simp at h2 h3
 omega
theorem i16_of{n:Nat}(h:Fits 16 n):IntKind.i16.wrap ((n % 256 ^ 2:Nat):Int)=sgn n:=by
 obtain⟨h1,h2,h3⟩:=h
 rw [wi16]
 unfold sgn wrap64 at *
 simp at h2 h3
 omega
theorem i32_of{n:Nat}(h:Fits 32 n):wrap32 ((n % 256 ^ 4:Nat):Int)=sgn n:=by
 obtain⟨h1,h2,h3⟩:=h
 unfold sgn wrap64 at *
 unfold wrap32
 simp at h2 h3
 omega
theorem Fits.mono{n j k:Nat}(h:Fits j n)(hjk:j≤k):Fits k n:=by
 obtain⟨h1,h2,h3⟩:=h
 have:2 ^ (j-1)≤2 ^ (k-1):=Nat.pow_le_pow_right (by omega) (by omega)
 exact⟨h1,by omega,by omega⟩
theorem i32s_of{n:Nat}(h:Fits 8 n):wrap32 (IntKind.i8.wrap ((n % 256:Nat):Int))=sgn n:=by
 rw [i8_of h]
 obtain⟨h1,h2,h3⟩:=h
 simp at h2 h3
 unfold wrap32
 omega
theorem i64s_of{n:Nat}(h:Fits 8 n):wrap64 (IntKind.i8.wrap ((n % 256:Nat):Int))=sgn n:=by
 rw [i8_of h]
 obtain⟨h1,h2,h3⟩:=h
 simp at h2 h3
 unfold wrap64
 omega
theorem i64_of{n:Nat}(h:n<18446744073709551616):wrap64 (Lib.beNat (beB 8 n):Int)=sgn n:=by
 rw [beNat_beB 8 n (by simpa using h)]
 rfl
theorem bool_of{n:Nat}(h:n≤1):(((n % 256:Nat):Int) !=0)=(n !=0):=by
 match n,h with
 | 0,_=>rfl
 | 1,_=>rfl
theorem mod_lt{n:Nat}(h:n<256):n % 256=n:=by omega
theorem leaf_reads{v:V}{b:List UInt8}(h:Leaf v b):Reads v b:=by
 intro g r w B
 cases h with
 | null o=>exact(any_64 g r w B).mono fun e w' he=>⟨_,he.1,he.2,fun _ _=>GVs.leaf (.null o) .nil⟩
 | b1 o=>
   refine(any 65 109 4 (by simp) g _ r (fun y _=>y=.bool true) w B (fun w0 B0=>(readBool_41 g r w0 B0).mono fun e w' he=>⟨_,he.1,he.2,fun _ _=>rfl⟩)).mono fun e w' he=>?_
   obtain⟨y,he,hg⟩:=he
   exact⟨_,he,hg.1,hg.2.imp fun W hy=>by subst hy;exact GVs.leaf (.bool 1 o (by omega)) .nil⟩
 | b0 o=>
   refine(any 66 109 4 (by simp) g _ r (fun y _=>y=.bool false) w B (fun w0 B0=>(readBool_42 g r w0 B0).mono fun e w' he=>⟨_,he.1,he.2,fun _ _=>rfl⟩)).mono fun e w' he=>?_
   obtain⟨y,he,hg⟩:=he
   exact⟨_,he,hg.1,hg.2.imp fun W hy=>by subst hy;exact GVs.leaf (.bool 0 o (by omega)) .nil⟩
 | bb n o h=>
   refine(any 86 109 4 (by simp) g _ r (fun y _=>y=.bool (n !=0)) w B (fun w0 B0=>(readBool_56 g (UInt8.ofNat (n/256 ^ 0 % 256)) r w0 B0).mono fun e w' he=>⟨_,he.1,he.2,fun _ _=>?_⟩)).mono fun e w' he=>?_
   ·rw [b1,bool_of h]
   ·obtain⟨y,he,hg⟩:=he
    exact⟨_,he,hg.1,hg.2.imp fun W hy=>by subst hy;exact GVs.leaf (.bool n o h) .nil⟩
 | u8 n o h=>
   refine(any 80 104 5 (by simp) g _ r (fun y _=>y=.int .u8 n) w B (fun w0 B0=>(readUbyte_50 g (UInt8.ofNat (n/256 ^ 0 % 256)) r w0 B0).mono fun e w' he=>⟨_,he.1,he.2,fun _ _=>?_⟩)).mono fun e w' he=>?_
   ·rw [b1,mod_lt h]
   ·obtain⟨y,he,hg⟩:=he
    exact⟨_,he,hg.1,hg.2.imp fun W hy=>by subst hy;exact GVs.leaf (.u8 n o h) .nil⟩
 | u16 n o h=>
   refine(any 96 103 117 (by simp) g _ r (fun y _=>y=.int .u16 n) w B (fun w0 B0=>(readUshort_60 g (beB 2 n) (beB_len 2 n) r w0 B0).mono fun e w' he=>⟨_,he.1,he.2,fun _ _=>?_⟩)).mono fun e w' he=>?_
   ·rw [beNat_beB 2 n (by simpa using h)]
   ·obtain⟨y,he,hg⟩:=he
    exact⟨_,he,hg.1,hg.2.imp fun W hy=>by subst hy;exact GVs.leaf (.u16 n o h) .nil⟩
 | u32z o=>
   refine(any 67 102 22 (by simp) g _ r (fun y _=>y=.int .u32 0) w B (fun w0 B0=>(readUint32_43 g r w0 B0).mono fun e w' he=>⟨_,he.1,he.2,fun _ _=>rfl⟩)).mono fun e w' he=>?_
   obtain⟨y,he,hg⟩:=he
   exact⟨_,he,hg.1,hg.2.imp fun W hy=>by subst hy;exact GVs.leaf (.u32 0 o (by omega)) .nil⟩
 | u32s n o h=>
   refine(any 82 102 22 (by simp) g _ r (fun y _=>y=.int .u32 n) w B (fun w0 B0=>(readUint32_52 g (UInt8.ofNat (n/256 ^ 0 % 256)) r w0 B0).mono fun e w' he=>⟨_,he.1,he.2,fun _ _=>?_⟩)).mono fun e w' he=>?_
   ·rw [b1,mod_lt h]
   ·obtain⟨y,he,hg⟩:=he
    exact⟨_,he,hg.1,hg.2.imp fun W hy=>by subst hy;exact GVs.leaf (.u32 n o (by omega)) .nil⟩
 | u32 n o h=>
   refine(any 112 102 22 (by simp) g _ r (fun y _=>y=.int .u32 n) w B (fun w0 B0=>(readUint32_70 g (beB 4 n) (beB_len 4 n) r w0 B0).mono fun e w' he=>⟨_,he.1,he.2,fun _ _=>?_⟩)).mono fun e w' he=>?_
   ·rw [beNat_beB 4 n (by simpa using h)]
   ·obtain⟨y,he,hg⟩:=he
    exact⟨_,he,hg.1,hg.2.imp fun W hy=>by subst hy;exact GVs.leaf (.u32 n o h) .nil⟩
 | u64z o=>
   refine(any 68 93 26 (by simp) g _ r (fun y _=>y=.int .u64 0) w B (fun w0 B0=>(readUlong_44 g r w0 B0).mono fun e w' he=>⟨_,he.1,he.2,fun _ _=>rfl⟩)).mono fun e w' he=>?_
   obtain⟨y,he,hg⟩:=he
   exact⟨_,he,hg.1,hg.2.imp fun W hy=>by subst hy;exact GVs.leaf (.u64 0 o (by omega)) .nil⟩
 | u64s n o h=>
   refine(any 83 93 26 (by simp) g _ r (fun y _=>y=.int .u64 n) w B (fun w0 B0=>(readUlong_53 g (UInt8.ofNat (n/256 ^ 0 % 256)) r w0 B0).mono fun e w' he=>⟨_,he.1,he.2,fun _ _=>?_⟩)).mono fun e w' he=>?_
   ·rw [b1,mod_lt h]
   ·obtain⟨y,he,hg⟩:=he
    exact⟨_,he,hg.1,hg.2.imp fun W hy=>by subst hy;exact GVs.leaf (.u64 n o (by omega)) .nil⟩
 | u64 n o h=>
   refine(any 128 93 26 (by simp) g _ r (fun y _=>y=.int .u64 n) w B (fun w0 B0=>(readUlong_80 g (beB 8 n) (beB_len 8 n) r w0 B0).mono fun e w' he=>⟨_,he.1,he.2,fun _ _=>?_⟩)).mono fun e w' he=>?_
   ·rw [beNat_beB 8 n (by simpa using h)]
   ·obtain⟨y,he,hg⟩:=he
    exact⟨_,he,hg.1,hg.2.imp fun W hy=>by subst hy;exact GVs.leaf (.u64 n o h) .nil⟩
 | i8 n o h=>
   refine(any 81 98 191 (by simp) g _ r (fun y _=>y=.int .i8 (sgn n)) w B (fun w0 B0=>(readSbyte_51 g (UInt8.ofNat (n/256 ^ 0 % 256)) r w0 B0).mono fun e w' he=>⟨_,he.1,he.2,fun _ _=>?_⟩)).mono fun e w' he=>?_
   ·rw [b1,i8_of h]
   ·obtain⟨y,he,hg⟩:=he
    exact⟨_,he,hg.1,hg.2.imp fun W hy=>by subst hy;exact GVs.leaf (.i8 n o h) .nil⟩
 | i16 n o h=>
   refine(any 97 99 195 (by simp) g _ r (fun y _=>y=.int .i16 (sgn n)) w B (fun w0 B0=>(readShort_61 g (beB 2 n) (beB_len 2 n) r w0 B0).mono fun e w' he=>⟨_,he.1,he.2,fun _ _=>?_⟩)).mono fun e w' he=>?_
   ·rw [beNat_beB_mod,i16_of h]
   ·obtain⟨y,he,hg⟩:=he
    exact⟨_,he,hg.1,hg.2.imp fun W hy=>by subst hy;exact GVs.leaf (.i16 n o h) .nil⟩
 | i32s n o h=>
   refine(any 84 100 21 (by simp) g _ r (fun y _=>y=.int .i32 (sgn n)) w B (fun w0 B0=>(readInt32_54 g (UInt8.ofNat (n/256 ^ 0 % 256)) r w0 B0).mono fun e w' he=>⟨_,he.1,he.2,fun _ _=>?_⟩)).mono fun e w' he=>?_
   ·rw [b1,i32s_of h]
   ·obtain⟨y,he,hg⟩:=he
    exact⟨_,he,hg.1,hg.2.imp fun W hy=>by subst hy;exact GVs.leaf (.i32 n o (h.mono (by omega))) .nil⟩
 | i32 n o h=>
   refine(any 113 100 21 (by simp) g _ r (fun y _=>y=.int .i32 (sgn n)) w B (fun w0 B0=>(readInt32_71 g (beB 4 n) (beB_len 4 n) r w0 B0).mono fun e w' he=>⟨_,he.1,he.2,fun _ _=>?_⟩)).mono fun e w' he=>?_
   ·rw [beNat_beB_mod,i32_of h]
   ·obtain⟨y,he,hg⟩:=he
    exact⟨_,he,hg.1,hg.2.imp fun W hy=>by subst hy;exact GVs.leaf (.i32 n o h) .nil⟩
 | i64s n o h=>
   refine(any 85 101 2 (by simp) g _ r (fun y _=>y=.int .i64 (sgn n)) w B (fun w0 B0=>(readLong_55 g (UInt8.ofNat (n/256 ^ 0 % 256)) r w0 B0).mono fun e w' he=>⟨_,he.1,he.2,fun _ _=>?_⟩)).mono fun e w' he=>?_
   ·rw [b1,i64s_of h]
   ·obtain⟨y,he,hg⟩:=he
    exact⟨_,he,hg.1,hg.2.imp fun W hy=>by subst hy;exact GVs.leaf (.i64 n o (h.mono (by omega))) .nil⟩
 | i64 n o h=>
   refine(any 129 101 2 (by simp) g _ r (fun y _=>y=.int .i64 (sgn n)) w B (fun w0 B0=>(readLong_81 g (beB 8 n) (beB_len 8 n) r w0 B0).mono fun e w' he=>⟨_,he.1,he.2,fun _ _=>?_⟩)).mono fun e w' he=>?_
   ·rw [i64_of h.1]
   ·obtain⟨y,he,hg⟩:=he
    exact⟨_,he,hg.1,hg.2.imp fun W hy=>by subst hy;exact GVs.leaf (.i64 n o h) .nil⟩
 | f32 n o h=>
   refine(any 114 105 212 (by simp) g _ r (fun y _=>y=.float .f32 n) w B (fun w0 B0=>(readFloat_is g (beB 4 n) r (beB_len 4 n) w0 B0).mono fun e w' he=>⟨_,he.1,he.2,fun _ _=>?_⟩)).mono fun e w' he=>?_
   ·rw [beNat_beB 4 n (by simpa using h)]
   ·obtain⟨y,he,hg⟩:=he
    exact⟨_,he,hg.1,hg.2.imp fun W hy=>by subst hy;exact GVs.leaf (.f32 n o h) .nil⟩
 | f64 n o h=>
   refine(any 130 106 216 (by simp) g _ r (fun y _=>y=.float .f64 n) w B (fun w0 B0=>(readDouble_is g (beB 8 n) r (beB_len 8 n) w0 B0).mono fun e w' he=>⟨_,he.1,he.2,fun _ _=>?_⟩)).mono fun e w' he=>?_
   ·rw [beNat_beB 8 n (by simpa using h)]
   ·obtain⟨y,he,hg⟩:=he
    exact⟨_,he,hg.1,hg.2.imp fun W hy=>by subst hy;exact GVs.leaf (.f64 n o h) .nil⟩
 | time n o h=>
   refine(any 131 110 228 (by simp) g _ r (fun y _=>y=timeV (sgn n)) w B (fun w0 B0=>(readTimestamp_is g (beB 8 n) r (beB_len 8 n) w0 B0).mono fun e w' he=>⟨_,he.1,he.2,fun _ _=>?_⟩)).mono fun e w' he=>?_
   ·rw [i64_of h.1]
   ·obtain⟨y,he,hg⟩:=he
    exact⟨_,he,hg.1,hg.2.imp fun W hy=>by subst hy;exact GVs.leaf (.time n o h) .nil⟩
 | uuid t o h=>
   refine(any 152 203 309 (by simp) g _ r (fun y _=>y=uuidV t) w B (fun w0 B0=>(readUUID_is g t r h w0 B0).mono fun e w' he=>⟨_,he.1,he.2,fun _ _=>rfl⟩)).mono fun e w' he=>?_
   obtain⟨y,he,hg⟩:=he
   exact⟨_,he,hg.1,hg.2.imp fun W hy=>by subst hy;exact GVs.leaf (.uuid t o h) .nil⟩
 | bin8 t o h=>
   have hb:UInt8.toNat (UInt8.ofNat (t.length/256 ^ 0 % 256))=t.length:=by rw [b1];omega
   refine(any 160 108 27 (by simp) g _ r (fun y w=>SlB w y t) w B (fun w0 B0=>(readBinary_8 g t r _ hb w0 (by simpa [beB]using B0)))).mono fun e w' he=>?_
   obtain⟨y,he,hg⟩:=he
   exact⟨_,he,hg.1,hg.2.imp fun W hy=>GVs.leaf (.bin t o y hy) .nil⟩
 | bin32 t o h=>
   refine(any 176 108 27 (by simp) g _ r (fun y w=>SlB w y t) w B (fun w0 B0=>(readBinary_32 g (beB 4 t.length) t r (beB_len _ _) (beNat_beB _ _ (by simpa using h)) w0 (by simpa using B0)))).mono fun e w' he=>?_
   obtain⟨y,he,hg⟩:=he
   exact⟨_,he,hg.1,hg.2.imp fun W hy=>GVs.leaf (.bin t o y hy) .nil⟩
 | str8 t o h=>
   have hb:UInt8.toNat (UInt8.ofNat (t.length/256 ^ 0 % 256))=t.length:=by rw [b1];omega
   refine(any 161 107 9 (by simp) g _ r (fun y _=>y=.string ⟨t.toArray⟩) w B (fun w0 B0=>(readString_8 g 161 (by decide) t r _ hb w0 (by simpa [beB]using B0)).mono fun e w' he=>⟨_,he.1,he.2,fun _ _=>rfl⟩)).mono fun e w' he=>?_
   obtain⟨y,he,hg⟩:=he
   exact⟨_,he,hg.1,hg.2.imp fun W hy=>by subst hy;exact GVs.leaf (.str t o (by omega)) .nil⟩
 | str32 t o h=>
   refine(any 177 107 9 (by simp) g _ r (fun y _=>y=.string ⟨t.toArray⟩) w B (fun w0 B0=>(readString_32 g 177 (by decide) (beB 4 t.length) t r (beB_len _ _) (beNat_beB _ _ (by simpa using h)) w0 (by simpa using B0)).mono fun e w' he=>⟨_,he.1,he.2,fun _ _=>rfl⟩)).mono fun e w' he=>?_
   obtain⟨y,he,hg⟩:=he
   exact⟨_,he,hg.1,hg.2.imp fun W hy=>by subst hy;exact GVs.leaf (.str t o (by omega)) .nil⟩
 | sym8 t o h=>
   have hb:UInt8.toNat (UInt8.ofNat (t.length/256 ^ 0 % 256))=t.length:=by rw [b1];omega
   refine(any 163 107 9 (by simp) g _ r (fun y _=>y=.string ⟨t.toArray⟩) w B (fun w0 B0=>(readString_8 g 163 (by decide) t r _ hb w0 (by simpa [beB]using B0)).mono fun e w' he=>⟨_,he.1,he.2,fun _ _=>rfl⟩)).mono fun e w' he=>?_
   obtain⟨y,he,hg⟩:=he
   exact⟨_,he,hg.1,hg.2.imp fun W hy=>by subst hy;exact GVs.leaf (.sym t o (by omega)) .nil⟩
 | sym32 t o h=>
   refine(any 179 107 9 (by simp) g _ r (fun y _=>y=.string ⟨t.toArray⟩) w B (fun w0 B0=>(readString_32 g 179 (by decide) (beB 4 t.length) t r (beB_len _ _) (beNat_beB _ _ (by simpa using h)) w0 (by simpa using B0)).mono fun e w' he=>⟨_,he.1,he.2,fun _ _=>rfl⟩)).mono fun e w' he=>?_
   obtain⟨y,he,hg⟩:=he
   exact⟨_,he,hg.1,hg.2.imp fun W hy=>by subst hy;exact GVs.leaf (.sym t o (by omega)) .nil⟩
theorem flat_one{β:Type}(f:V→β)(l:List V):(l.map fun v=>[f v]).flatten=l.map f:=by
 induction l with
 | nil=>rfl
 | cons v l ih=>simp [ih]
theorem flat_byte(l:List V):(l.map fun v=>beB 1 v.num).flatten=l.map fun v=>UInt8.ofNat (v.num/256 ^ 0 % 256):=flat_one _ l
theorem beB_all(s:Nat)(l:List V):∀x∈l.map (fun v=>beB s v.num),x.length=s:=by
 intro x hx
 obtain⟨v,_,rfl⟩:=List.mem_map.1 hx
 exact beB_len s v.num
theorem lens_ne{l:List V}(h:∀v∈l,v.num=0∧v.text≠[]):∀x∈l.map V.text,x≠[]:=by
 intro x hx
 obtain⟨v,hv,rfl⟩:=List.mem_map.1 hx
 exact(h v hv).2
def ArrReads(l:List V)(code:UInt8)(data:List UInt8):Prop:=
 ∀(g:Nat) (r h:List UInt8) (w:World),Hd 224 240 l.length (code::data) h→Buf w g (h++(code::data++r))→
  Calls Tryz.prog 204 #[.pointer (some ⟨g,0,none⟩)] w fun e w'=>∃y,e=.returned (.tuple #[y,.nilIface])∧Got w g r (fun w=>GArr w l y) w'
theorem num_reads{k:Int}{code:UInt8}{s:Nat}{okn:Nat→Prop}{l:List V}(hT:NumT k code s okn)(hp:Plain k l)(hn:∀v∈l,okn v.num∧v.text=[])(hne:0<l.length)(hmax:l.length≤1000):ArrReads l code (l.map fun v=>beB s v.num).flatten:=by
 intro g r h w Hh B
 cases hT with
 | bool=>
   rw [flat_byte]at Hh B
   obtain⟨xs,hxs⟩:∃xs,xs=l.map fun v=>UInt8.ofNat (v.num/256 ^ 0 % 256):=⟨_,rfl⟩
   have hl:xs.length=l.length:=by rw [hxs,List.length_map]
   rw [←hxs]at Hh B
   rw [←hl]at Hh hne hmax
   refine(anyArr 86 120 313 (by simp) g _ xs r h (fun s w=>SlX w 4 1 s (l.map fun v=>[Value.bool (v.num !=0)]).flatten) Hh w B (fun w0 p hp0 hc0 hf0 B0=>?_)).mono fun e w' he=>?_
   ·have:=arrayBool_is g p hp0 xs hne (by omega) r h Hh w0 hc0 hf0 B0
    rw [flat_one]
    have e:(xs.map fun x=>Value.bool (x !=0))=l.map fun v=>Value.bool (v.num !=0):=by
     rw [hxs,List.map_map]
     refine List.map_congr_left fun v hv=>?_
     have h:=(hn v hv).1
     simp only [Function.comp]
     have hb:(UInt8.ofNat (v.num/256 ^ 0 % 256) !=0)=(v.num !=0):=by
      have h1:v.num≤1:=h
      match v.num,h1 with
      | 0,_=>rfl
      | 1,_=>rfl
     rw [hb]
    rw [←e]
    exact this
   ·obtain⟨y,he,hg⟩:=he
    exact⟨_,he,hg.1,hg.2.imp fun W hy=>.cells .bool hp hy⟩
 | u8=>
   rw [flat_byte]at Hh B
   obtain⟨xs,hxs⟩:∃xs,xs=l.map fun v=>UInt8.ofNat (v.num/256 ^ 0 % 256):=⟨_,rfl⟩
   have hl:xs.length=l.length:=by rw [hxs,List.length_map]
   rw [←hxs]at Hh B
   rw [←hl]at Hh hne hmax
   refine(anyArr 80 232 315 (by simp) g _ xs r h (fun s w=>SlB w s (l.map fun v=>UInt8.ofNat v.num)) Hh w B (fun w0 p hp0 hc0 hf0 B0=>?_)).mono fun e w' he=>?_
   ·have:=arrayUbyte_is g p hp0 xs hne (by omega) r h Hh w0 hc0 hf0 B0
    have e:xs=l.map fun v=>UInt8.ofNat v.num:=by
     rw [hxs]
     refine List.map_congr_left fun v hv=>?_
     have h:v.num<256:=(hn v hv).1
     have e1:v.num/256 ^ 0 % 256=v.num:=by simp;omega
     rw [e1]
    rw [←e]
    exact this
   ·obtain⟨y,he,hg⟩:=he
    exact⟨_,he,hg.1,hg.2.imp fun W hy=>.ubyte hp hy⟩
 | u16=>
   obtain⟨xs,hxs⟩:∃xs,xs=l.map fun v=>beB 2 v.num:=⟨_,rfl⟩
   have hl:xs.length=l.length:=by rw [hxs,List.length_map]
   have hx:∀x∈xs,x.length=2:=by rw [hxs];exact beB_all 2 l
   rw [←hxs]at Hh B
   rw [←hl]at Hh hne hmax
   refine(anyArr 96 112 51 (by simp) g _ xs.flatten r h (fun s w=>SlX w 117 1 s (l.map fun v=>[Value.int .u16 v.num]).flatten) Hh w B (fun w0 p hp0 hc0 hf0 B0=>?_)).mono fun e w' he=>?_
   ·have:=arrayUint16_is g p hp0 xs hx hne (by omega) r h Hh w0 hc0 hf0 B0
    rw [flat_one]
    have e:(xs.map fun x=>Value.int .u16 (Lib.beNat x))=l.map fun v=>Value.int .u16 v.num:=by
     rw [hxs,List.map_map]
     refine List.map_congr_left fun v hv=>?_
     have h:=(hn v hv).1
     simp only [Function.comp]
     rw [beNat_beB 2 v.num (by simpa using h)]
    rw [←e]
    exact this
   ·obtain⟨y,he,hg⟩:=he
    exact⟨_,he,hg.1,hg.2.imp fun W hy=>.cells .u16 hp hy⟩
 | u32s=>
   rw [flat_byte]at Hh B
   obtain⟨xs,hxs⟩:∃xs,xs=l.map fun v=>UInt8.ofNat (v.num/256 ^ 0 % 256):=⟨_,rfl⟩
   have hl:xs.length=l.length:=by rw [hxs,List.length_map]
   rw [←hxs]at Hh B
   rw [←hl]at Hh hne hmax
   refine(anyArr 82 114 320 (by simp) g _ xs r h (fun s w=>SlX w 22 1 s (l.map fun v=>[Value.int .u32 v.num]).flatten) Hh w B (fun w0 p hp0 hc0 hf0 B0=>?_)).mono fun e w' he=>?_
   ·have:=arrayUint32_s g p hp0 xs hne (by omega) r h Hh w0 hc0 hf0 B0
    rw [flat_one]
    have e:(xs.map fun x=>Value.int .u32 x.toNat)=l.map fun v=>Value.int .u32 v.num:=by
     rw [hxs,List.map_map]
     refine List.map_congr_left fun v hv=>?_
     have h:=(hn v hv).1
     simp only [Function.comp]
     rw [b1,mod_lt h]
    rw [←e]
    exact this
   ·obtain⟨y,he,hg⟩:=he
    exact⟨_,he,hg.1,hg.2.imp fun W hy=>.cells .u32 hp hy⟩
 | u32=>
   obtain⟨xs,hxs⟩:∃xs,xs=l.map fun v=>beB 4 v.num:=⟨_,rfl⟩
   have hl:xs.length=l.length:=by rw [hxs,List.length_map]
   have hx:∀x∈xs,x.length=4:=by rw [hxs];exact beB_all 4 l
   rw [←hxs]at Hh B
   rw [←hl]at Hh hne hmax
   refine(anyArr 112 114 320 (by simp) g _ xs.flatten r h (fun s w=>SlX w 22 1 s (l.map fun v=>[Value.int .u32 v.num]).flatten) Hh w B (fun w0 p hp0 hc0 hf0 B0=>?_)).mono fun e w' he=>?_
   ·have:=arrayUint32_is g p hp0 xs hx hne (by omega) r h Hh w0 hc0 hf0 B0
    rw [flat_one]
    have e:(xs.map fun x=>Value.int .u32 (Lib.beNat x))=l.map fun v=>Value.int .u32 v.num:=by
     rw [hxs,List.map_map]
     refine List.map_congr_left fun v hv=>?_
     have h:=(hn v hv).1
     simp only [Function.comp]
     rw [beNat_beB 4 v.num (by simpa using h)]
    rw [←e]
    exact this
   ·obtain⟨y,he,hg⟩:=he
    exact⟨_,he,hg.1,hg.2.imp fun W hy=>.cells .u32 hp hy⟩
 | u64s=>
   rw [flat_byte]at Hh B
   obtain⟨xs,hxs⟩:∃xs,xs=l.map fun v=>UInt8.ofNat (v.num/256 ^ 0 % 256):=⟨_,rfl⟩
   have hl:xs.length=l.length:=by rw [hxs,List.length_map]
   rw [←hxs]at Hh B
   rw [←hl]at Hh hne hmax
   refine(anyArr 83 116 323 (by simp) g _ xs r h (fun s w=>SlX w 26 1 s (l.map fun v=>[Value.int .u64 v.num]).flatten) Hh w B (fun w0 p hp0 hc0 hf0 B0=>?_)).mono fun e w' he=>?_
   ·have:=arrayUint64_s g p hp0 xs hne (by omega) r h Hh w0 hc0 hf0 B0
    rw [flat_one]
    have e:(xs.map fun x=>Value.int .u64 x.toNat)=l.map fun v=>Value.int .u64 v.num:=by
     rw [hxs,List.map_map]
     refine List.map_congr_left fun v hv=>?_
     have h:=(hn v hv).1
     simp only [Function.comp]
     rw [b1,mod_lt h]
    rw [←e]
    exact this
   ·obtain⟨y,he,hg⟩:=he
    exact⟨_,he,hg.1,hg.2.imp fun W hy=>.cells .u64 hp hy⟩
 | u64=>
   obtain⟨xs,hxs⟩:∃xs,xs=l.map fun v=>beB 8 v.num:=⟨_,rfl⟩
   have hl:xs.length=l.length:=by rw [hxs,List.length_map]
   have hx:∀x∈xs,x.length=8:=by rw [hxs];exact beB_all 8 l
   rw [←hxs]at Hh B
   rw [←hl]at Hh hne hmax
   refine(anyArr 128 116 323 (by simp) g _ xs.flatten r h (fun s w=>SlX w 26 1 s (l.map fun v=>[Value.int .u64 v.num]).flatten) Hh w B (fun w0 p hp0 hc0 hf0 B0=>?_)).mono fun e w' he=>?_
   ·have:=arrayUint64_is g p hp0 xs hx hne (by omega) r h Hh w0 hc0 hf0 B0
    rw [flat_one]
    have e:(xs.map fun x=>Value.int .u64 (Lib.beNat x))=l.map fun v=>Value.int .u64 v.num:=by
     rw [hxs,List.map_map]
     refine List.map_congr_left fun v hv=>?_
     have h:=(hn v hv).1
     simp only [Function.comp]
     rw [beNat_beB 8 v.num (by simpa using h)]
    rw [←e]
    exact this
   ·obtain⟨y,he,hg⟩:=he
    exact⟨_,he,hg.1,hg.2.imp fun W hy=>.cells .u64 hp hy⟩
 | i8=>
   rw [flat_byte]at Hh B
   obtain⟨xs,hxs⟩:∃xs,xs=l.map fun v=>UInt8.ofNat (v.num/256 ^ 0 % 256):=⟨_,rfl⟩
   have hl:xs.length=l.length:=by rw [hxs,List.length_map]
   rw [←hxs]at Hh B
   rw [←hl]at Hh hne hmax
   refine(anyArr 81 111 326 (by simp) g _ xs r h (fun s w=>SlX w 191 1 s (l.map fun v=>[Value.int .i8 (sgn v.num)]).flatten) Hh w B (fun w0 p hp0 hc0 hf0 B0=>?_)).mono fun e w' he=>?_
   ·have:=arrayInt8_is g p hp0 xs hne (by omega) r h Hh w0 hc0 hf0 B0
    rw [flat_one]
    have e:(xs.map fun x=>Value.int .i8 (IntKind.i8.wrap x.toNat))=l.map fun v=>Value.int .i8 (sgn v.num):=by
     rw [hxs,List.map_map]
     refine List.map_congr_left fun v hv=>?_
     have h:=(hn v hv).1
     simp only [Function.comp]
     rw [b1,i8_of h]
    rw [←e]
    exact this
   ·obtain⟨y,he,hg⟩:=he
    exact⟨_,he,hg.1,hg.2.imp fun W hy=>.cells .i8 hp hy⟩
 | i16=>
   obtain⟨xs,hxs⟩:∃xs,xs=l.map fun v=>beB 2 v.num:=⟨_,rfl⟩
   have hl:xs.length=l.length:=by rw [hxs,List.length_map]
   have hx:∀x∈xs,x.length=2:=by rw [hxs];exact beB_all 2 l
   rw [←hxs]at Hh B
   rw [←hl]at Hh hne hmax
   refine(anyArr 97 113 329 (by simp) g _ xs.flatten r h (fun s w=>SlX w 195 1 s (l.map fun v=>[Value.int .i16 (sgn v.num)]).flatten) Hh w B (fun w0 p hp0 hc0 hf0 B0=>?_)).mono fun e w' he=>?_
   ·have:=arrayInt16_is g p hp0 xs hx hne (by omega) r h Hh w0 hc0 hf0 B0
    rw [flat_one]
    have e:(xs.map fun x=>Value.int .i16 (IntKind.i16.wrap (Lib.beNat x)))=l.map fun v=>Value.int .i16 (sgn v.num):=by
     rw [hxs,List.map_map]
     refine List.map_congr_left fun v hv=>?_
     have h:=(hn v hv).1
     simp only [Function.comp]
     rw [beNat_beB_mod,i16_of h]
    rw [←e]
    exact this
   ·obtain⟨y,he,hg⟩:=he
    exact⟨_,he,hg.1,hg.2.imp fun W hy=>.cells .i16 hp hy⟩
 | i32s=>
   rw [flat_byte]at Hh B
   obtain⟨xs,hxs⟩:∃xs,xs=l.map fun v=>UInt8.ofNat (v.num/256 ^ 0 % 256):=⟨_,rfl⟩
   have hl:xs.length=l.length:=by rw [hxs,List.length_map]
   rw [←hxs]at Hh B
   rw [←hl]at Hh hne hmax
   refine(anyArr 84 115 332 (by simp) g _ xs r h (fun s w=>SlX w 21 1 s (l.map fun v=>[Value.int .i32 (sgn v.num)]).flatten) Hh w B (fun w0 p hp0 hc0 hf0 B0=>?_)).mono fun e w' he=>?_
   ·have:=arrayInt32_s g p hp0 xs hne (by omega) r h Hh w0 hc0 hf0 B0
    rw [flat_one]
    have e:(xs.map fun x=>Value.int .i32 (wrap32 (IntKind.i8.wrap x.toNat)))=l.map fun v=>Value.int .i32 (sgn v.num):=by
     rw [hxs,List.map_map]
     refine List.map_congr_left fun v hv=>?_
     have h:=(hn v hv).1
     simp only [Function.comp]
     rw [b1,i32s_of h]
    rw [←e]
    exact this
   ·obtain⟨y,he,hg⟩:=he
    exact⟨_,he,hg.1,hg.2.imp fun W hy=>.cells .i32 hp hy⟩
 | i32=>
   obtain⟨xs,hxs⟩:∃xs,xs=l.map fun v=>beB 4 v.num:=⟨_,rfl⟩
   have hl:xs.length=l.length:=by rw [hxs,List.length_map]
   have hx:∀x∈xs,x.length=4:=by rw [hxs];exact beB_all 4 l
   rw [←hxs]at Hh B
   rw [←hl]at Hh hne hmax
   refine(anyArr 113 115 332 (by simp) g _ xs.flatten r h (fun s w=>SlX w 21 1 s (l.map fun v=>[Value.int .i32 (sgn v.num)]).flatten) Hh w B (fun w0 p hp0 hc0 hf0 B0=>?_)).mono fun e w' he=>?_
   ·have:=arrayInt32_is g p hp0 xs hx hne (by omega) r h Hh w0 hc0 hf0 B0
    rw [flat_one]
    have e:(xs.map fun x=>Value.int .i32 (wrap32 (Lib.beNat x)))=l.map fun v=>Value.int .i32 (sgn v.num):=by
     rw [hxs,List.map_map]
     refine List.map_congr_left fun v hv=>?_
     have h:=(hn v hv).1
     simp only [Function.comp]
     rw [beNat_beB_mod,i32_of h]
    rw [←e]
    exact this
   ·obtain⟨y,he,hg⟩:=he
    exact⟨_,he,hg.1,hg.2.imp fun W hy=>.cells .i32 hp hy⟩
 | i64s=>
   rw [flat_byte]at Hh B
   obtain⟨xs,hxs⟩:∃xs,xs=l.map fun v=>UInt8.ofNat (v.num/256 ^ 0 % 256):=⟨_,rfl⟩
   have hl:xs.length=l.length:=by rw [hxs,List.length_map]
   rw [←hxs]at Hh B
   rw [←hl]at Hh hne hmax
   refine(anyArr 85 117 335 (by simp) g _ xs r h (fun s w=>SlX w 2 1 s (l.map fun v=>[Value.int .i64 (sgn v.num)]).flatten) Hh w B (fun w0 p hp0 hc0 hf0 B0=>?_)).mono fun e w' he=>?_
   ·have:=arrayInt64_s g p hp0 xs hne (by omega) r h Hh w0 hc0 hf0 B0
    rw [flat_one]
    have e:(xs.map fun x=>Value.int .i64 (wrap64 (IntKind.i8.wrap x.toNat)))=l.map fun v=>Value.int .i64 (sgn v.num):=by
     rw [hxs,List.map_map]
     refine List.map_congr_left fun v hv=>?_
     have h:=(hn v hv).1
     simp only [Function.comp]
     rw [b1,i64s_of h]
    rw [←e]
    exact this
   ·obtain⟨y,he,hg⟩:=he
    exact⟨_,he,hg.1,hg.2.imp fun W hy=>.cells .i64 hp hy⟩
 | i64=>
   obtain⟨xs,hxs⟩:∃xs,xs=l.map fun v=>beB 8 v.num:=⟨_,rfl⟩
   have hl:xs.length=l.length:=by rw [hxs,List.length_map]
   have hx:∀x∈xs,x.length=8:=by rw [hxs];exact beB_all 8 l
   rw [←hxs]at Hh B
   rw [←hl]at Hh hne hmax
   refine(anyArr 129 117 335 (by simp) g _ xs.flatten r h (fun s w=>SlX w 2 1 s (l.map fun v=>[Value.int .i64 (sgn v.num)]).flatten) Hh w B (fun w0 p hp0 hc0 hf0 B0=>?_)).mono fun e w' he=>?_
   ·have:=arrayInt64_is g p hp0 xs hx hne (by omega) r h Hh w0 hc0 hf0 B0
    rw [flat_one]
    have e:(xs.map fun x=>Value.int .i64 (wrap64 (Lib.beNat x)))=l.map fun v=>Value.int .i64 (sgn v.num):=by
     rw [hxs,List.map_map]
     refine List.map_congr_left fun v hv=>?_
     have h:=(hn v hv).1
     simp only [Function.comp]
     rw [i64_of h.1]
    rw [←e]
    exact this
   ·obtain⟨y,he,hg⟩:=he
    exact⟨_,he,hg.1,hg.2.imp fun W hy=>.cells .i64 hp hy⟩
 | f32=>
   obtain⟨xs,hxs⟩:∃xs,xs=l.map fun v=>beB 4 v.num:=⟨_,rfl⟩
   have hl:xs.length=l.length:=by rw [hxs,List.length_map]
   have hx:∀x∈xs,x.length=4:=by rw [hxs];exact beB_all 4 l
   rw [←hxs]at Hh B
   rw [←hl]at Hh hne hmax
   refine(anyArr 114 118 338 (by simp) g _ xs.flatten r h (fun s w=>SlX w 212 1 s (l.map fun v=>[Value.float .f32 v.num]).flatten) Hh w B (fun w0 p hp0 hc0 hf0 B0=>?_)).mono fun e w' he=>?_
   ·have:=arrayFloat_is g p hp0 xs hx hne (by omega) r h Hh w0 hc0 hf0 B0
    rw [flat_one]
    have e:(xs.map fun x=>Value.float .f32 (Lib.beNat x))=l.map fun v=>Value.float .f32 v.num:=by
     rw [hxs,List.map_map]
     refine List.map_congr_left fun v hv=>?_
     have h:=(hn v hv).1
     simp only [Function.comp]
     rw [beNat_beB 4 v.num (by simpa using h)]
    rw [←e]
    exact this
   ·obtain⟨y,he,hg⟩:=he
    exact⟨_,he,hg.1,hg.2.imp fun W hy=>.cells .f32 hp hy⟩
 | f64=>
   obtain⟨xs,hxs⟩:∃xs,xs=l.map fun v=>beB 8 v.num:=⟨_,rfl⟩
   have hl:xs.length=l.length:=by rw [hxs,List.length_map]
   have hx:∀x∈xs,x.length=8:=by rw [hxs];exact beB_all 8 l
   rw [←hxs]at Hh B
   rw [←hl]at Hh hne hmax
   refine(anyArr 130 119 341 (by simp) g _ xs.flatten r h (fun s w=>SlX w 216 1 s (l.map fun v=>[Value.float .f64 v.num]).flatten) Hh w B (fun w0 p hp0 hc0 hf0 B0=>?_)).mono fun e w' he=>?_
   ·have:=arrayDouble_is g p hp0 xs hx hne (by omega) r h Hh w0 hc0 hf0 B0
    rw [flat_one]
    have e:(xs.map fun x=>Value.float .f64 (Lib.beNat x))=l.map fun v=>Value.float .f64 v.num:=by
     rw [hxs,List.map_map]
     refine List.map_congr_left fun v hv=>?_
     have h:=(hn v hv).1
     simp only [Function.comp]
     rw [beNat_beB 8 v.num (by simpa using h)]
    rw [←e]
    exact this
   ·obtain⟨y,he,hg⟩:=he
    exact⟨_,he,hg.1,hg.2.imp fun W hy=>.cells .f64 hp hy⟩
 | time=>
   obtain⟨xs,hxs⟩:∃xs,xs=l.map fun v=>beB 8 v.num:=⟨_,rfl⟩
   have hl:xs.length=l.length:=by rw [hxs,List.length_map]
   have hx:∀x∈xs,x.length=8:=by rw [hxs];exact beB_all 8 l
   rw [←hxs]at Hh B
   rw [←hl]at Hh hne hmax
   refine(anyArr 131 124 343 (by simp) g _ xs.flatten r h (fun s w=>SlX w 228 2 s (l.map fun v=>timeC (sgn v.num)).flatten) Hh w B (fun w0 p hp0 hc0 hf0 B0=>?_)).mono fun e w' he=>?_
   ·have:=arrayTime_is g p hp0 xs hx hne (by omega) r h Hh w0 hc0 hf0 B0
    have e:(xs.map fun x=>timeC (wrap64 (Lib.beNat x)))=l.map fun v=>timeC (sgn v.num):=by
     rw [hxs,List.map_map]
     refine List.map_congr_left fun v hv=>?_
     have h:Fits 64 v.num:=(hn v hv).1
     simp only [Function.comp]
     rw [i64_of h.1]
    rw [←e]
    exact this
   ·obtain⟨y,he,hg⟩:=he
    exact⟨_,he,hg.1,hg.2.imp fun W hy=>.cells .time hp hy⟩
theorem text_map{l:List V}:((l.map V.text).map fun x=>Value.string ⟨x.toArray⟩)=l.map fun v=>Value.string ⟨v.text.toArray⟩:=by rw [List.map_map];rfl
theorem arr_reads{l:List V}{code:UInt8}{data:List UInt8}(H:EncA l code data)(hne:0<l.length)(hmax:l.length≤1000):ArrReads l code data:=by
 cases H with
 | num hT hp hn=>exact num_reads hT hp hn hne hmax
 | uuid hp hn=>
   intro g r h w Hh B
   have hl:(l.map V.text).length=l.length:=List.length_map ..
   have hx:∀x∈l.map V.text,x.length=16:=by
    intro x hx
    obtain⟨v,hv,rfl⟩:=List.mem_map.1 hx
    exact(hn v hv).2
   rw [←hl]at Hh hne hmax
   refine(anyArr 152 126 346 (by simp) g _ _ r h (fun s w=>SlX w 309 16 s (l.map fun v=>uuidC v.text).flatten) Hh w B (fun w0 p hp0 hc0 hf0 B0=>?_)).mono fun e w' he=>?_
   ·have:=arrayUUID_is g p hp0 _ hx hne (by omega) r h Hh w0 hc0 hf0 B0
    rw [List.map_map]at this
    exact this
   ·obtain⟨y,he,hg⟩:=he
    exact⟨_,he,hg.1,hg.2.imp fun W hy=>.cells .uuid hp hy⟩
 | text hT hp hn hL=>
   intro g r h w Hh B
   have hl:(l.map V.text).length=l.length:=List.length_map ..
   have hx:=lens_ne hn
   rw [←hl]at Hh hne hmax
   cases hT with
   | str8=>
     refine(anyArr 161 121 52 (by simp) g _ _ r h (fun s w=>SlX w 9 1 s (l.map fun v=>[Value.string ⟨v.text.toArray⟩]).flatten) Hh w B (fun w0 p hp0 hc0 hf0 B0=>?_)).mono fun e w' he=>?_
     ·have:=arrayString_8 g p hp0 _ _ hx hL hne (by omega) r h Hh w0 hc0 hf0 B0
      rw [text_map]at this
      rw [flat_one]
      exact this
     ·obtain⟨y,he,hg⟩:=he
      exact⟨_,he,hg.1,hg.2.imp fun W hy=>.cells .str hp hy⟩
   | str32=>
     refine(anyArr 177 121 52 (by simp) g _ _ r h (fun s w=>SlX w 9 1 s (l.map fun v=>[Value.string ⟨v.text.toArray⟩]).flatten) Hh w B (fun w0 p hp0 hc0 hf0 B0=>?_)).mono fun e w' he=>?_
     ·have:=arrayString_32 g p hp0 _ _ hx hL hne (by omega) r h Hh w0 hc0 hf0 B0
      rw [text_map]at this
      rw [flat_one]
      exact this
     ·obtain⟨y,he,hg⟩:=he
      exact⟨_,he,hg.1,hg.2.imp fun W hy=>.cells .str hp hy⟩
   | sym8=>
     refine(anyArr 163 122 109 (by simp) g _ _ r h (fun s w=>SlX w 158 1 s (l.map fun v=>[Value.string ⟨v.text.toArray⟩]).flatten) Hh w B (fun w0 p hp0 hc0 hf0 B0=>?_)).mono fun e w' he=>?_
     ·have:=arraySymbol_8 g p hp0 _ _ hx hL hne (by omega) r h Hh w0 hc0 hf0 B0
      rw [text_map]at this
      rw [flat_one]
      exact this
     ·obtain⟨y,he,hg⟩:=he
      exact⟨_,he,hg.1,hg.2.imp fun W hy=>.cells .sym hp hy⟩
   | sym32=>
     refine(anyArr 179 122 109 (by simp) g _ _ r h (fun s w=>SlX w 158 1 s (l.map fun v=>[Value.string ⟨v.text.toArray⟩]).flatten) Hh w B (fun w0 p hp0 hc0 hf0 B0=>?_)).mono fun e w' he=>?_
     ·have:=arraySymbol_32 g p hp0 _ _ hx hL hne (by omega) r h Hh w0 hc0 hf0 B0
      rw [text_map]at this
      rw [flat_one]
      exact this
     ·obtain⟨y,he,hg⟩:=he
      exact⟨_,he,hg.1,hg.2.imp fun W hy=>.cells .sym hp hy⟩
   | bin8=>
     refine(anyArr 160 123 349 (by simp) g _ _ r h (fun s w=>SlR w 27 (fun w u x=>SlB w u x) s (l.map V.text)) Hh w B (fun w0 p hp0 hc0 hf0 B0=>?_)).mono fun e w' he=>?_
     ·exact arrayBinary_8 g p hp0 _ _ hx hL hne (by omega) r h Hh w0 hc0 hf0 B0
     ·obtain⟨y,he,hg⟩:=he
      exact⟨_,he,hg.1,hg.2.imp fun W hy=>.bin hp hy⟩
   | bin32=>
     refine(anyArr 176 123 349 (by simp) g _ _ r h (fun s w=>SlR w 27 (fun w u x=>SlB w u x) s (l.map V.text)) Hh w B (fun w0 p hp0 hc0 hf0 B0=>?_)).mono fun e w' he=>?_
     ·exact arrayBinary_32 g p hp0 _ _ hx hL hne (by omega) r h Hh w0 hc0 hf0 B0
     ·obtain⟨y,he,hg⟩:=he
      exact⟨_,he,hg.1,hg.2.imp fun W hy=>.bin hp hy⟩
inductive EncV:List V→List UInt8→Prop where
 | nil:EncV [] []
 | leaf {v:V} {b bs:List UInt8} {vs:List V} (h:Leaf v b) (hs:EncV vs bs):EncV (v::vs) (b++bs)
 | list0 {o:Int} {bs:List UInt8} {vs:List V} (hs:EncV vs bs):EncV (.mk 21 0 [] [] o []::vs) ([69]++bs)
 | list {o:Int} {kids vs:List V} {body h bs:List UInt8} (hk:EncV kids body) (hh:Hd 192 208 kids.length body h) (hm:kids.length≤1000) (hs:EncV vs bs):EncV (.mk 21 0 [] kids o []::vs) (h++body++bs)
 | map {o:Int} {ps:List (V×V)} {vs:List V} {body h bs:List UInt8} (hk:EncV (flat2 ps) body) (hh:Hd 193 209 (2*ps.length) body h) (hm:2*ps.length≤1000) (ok:MapOk ps) (hs:EncV vs bs):EncV (.mk 22 0 [] (flat2 ps) o []::vs) (h++body++bs)
 | arr {o:Int} {kids vs:List V} {code:UInt8} {data h bs:List UInt8} (hk:EncA kids code data) (hh:Hd 224 240 kids.length (code::data) h) (hm:kids.length≤1000) (hne:kids≠[]) (hs:EncV vs bs):EncV (.mk 23 0 [] kids o []::vs) (h++(code::data)++bs)
theorem EncV.len{l:List V}{b:List UInt8}(h:EncV l b):l.length≤b.length:=by
 induction h with
 | nil=>simp
 | leaf h hs ih=>
   have:=h.pos
   rw [List.length_append,List.length_cons];omega
 | list0 hs ih=>simp;omega
 | list hk hh hm hs ih1 ih2=>rcases hh with⟨s,c,rfl,_⟩ | ⟨p,q,rfl,_⟩<;>simp<;>omega
 | map hk hh hm ok hs ih1 ih2=>rcases hh with⟨s,c,rfl,_⟩ | ⟨p,q,rfl,_⟩<;>simp<;>omega
 | arr hk hh hm hne hs ih2=>rcases hh with⟨s,c,rfl,_⟩ | ⟨p,q,rfl,_⟩<;>simp<;>omega
theorem list0_reads(o:Int):Reads (.mk 21 0 [] [] o []) [69]:=by
 intro g r w B
 refine anyV 69 205 (by simp) g r r (fun y w=>GV w (.mk 21 0 [] [] o []) y) w B (fun w0 B0=>?_)
 have C:ArrC 127 g r ([69]++([]++r)) (fun s w=>ListV [] s w):=fun w1 p hp hc hf B1=>
  (list_none g [] r [69] rfl (.inl rfl) w1 p hp hc hf B1).mono fun e w' ⟨he,sl,w2,h1,h2,h3⟩=>⟨he,sl,w2,h1,h2,h3.imp fun W hW=>.inl ⟨rfl,hW⟩⟩
 exact anyList_is g [] r _ C o w0 B0
theorem list_reads(o:Int)(kids:List V)(body h:List UInt8)(HR:ReadsL kids body)(hlen:kids.length≤body.length)(Hh:Hd 192 208 kids.length body h)(hm:kids.length≤1000):Reads (.mk 21 0 [] kids o []) (h++body):=by
 intro g r w B
 rw [List.append_assoc]at B
 have C:ArrC 127 g r (h++(body++r)) (fun s w=>ListV kids s w):=fun w1 p hp hc hf B1=>by
  by_cases hk:kids=[]
  ·subst hk
   have hb:body=[]:=by cases HR;rfl
   exact(list_none g body r h hb (.inr Hh) w1 p hp hc hf B1).mono fun e w' ⟨he,sl,w2,h1,h2,h3⟩=>⟨he,sl,w2,h1,h2,h3.imp fun W hW=>.inl ⟨rfl,hW⟩⟩
  ·exact(list_some g kids body r h (List.length_pos_iff.2 hk) hm hlen Hh HR w1 p hp hc hf B1).mono fun e w' ⟨he,sl,w2,h1,h2,h3⟩=>⟨he,sl,w2,h1,h2,h3.imp fun W hW=>.inr ⟨hk,hW⟩⟩
 have D:=fun w0 B0=>anyList_is g kids r _ C o w0 B0
 rcases Hh with⟨s,c,rfl,_⟩ | ⟨p,q,rfl,_⟩
 ·exact anyV 192 205 (by simp) g _ r (fun y w=>GV w (.mk 21 0 [] kids o []) y) w B D
 ·exact anyV 208 205 (by simp) g _ r (fun y w=>GV w (.mk 21 0 [] kids o []) y) w B D
theorem map_reads(o:Int)(ps:List (V×V))(body h:List UInt8)(HR:ReadsL (flat2 ps) body)(hlen:2*ps.length≤body.length)(Hh:Hd 193 209 (2*ps.length) body h)(hm:2*ps.length≤1000)(ok:MapOk ps):Reads (.mk 22 0 [] (flat2 ps) o []) (h++body):=by
 intro g r w B
 rw [List.append_assoc]at B
 have D:=fun w0 B0=>anyMap_is g ps body r h hm hlen Hh HR ok o w0 B0
 rcases Hh with⟨s,c,rfl,_⟩ | ⟨p,q,rfl,_⟩
 ·exact anyV 193 206 (by simp) g _ r (fun y w=>GV w (.mk 22 0 [] (flat2 ps) o []) y) w B D
 ·exact anyV 209 206 (by simp) g _ r (fun y w=>GV w (.mk 22 0 [] (flat2 ps) o []) y) w B D
theorem array_reads(o:Int)(kids:List V)(code:UInt8)(data h:List UInt8)(hk:EncA kids code data)(Hh:Hd 224 240 kids.length (code::data) h)(hm:kids.length≤1000)(hne:kids≠[]):Reads (.mk 23 0 [] kids o []) (h++(code::data)):=by
 intro g r w B
 rw [List.append_assoc]at B
 have D:RdC 204 g (h++(code::data++r)) r (fun y w=>GV w (.mk 23 0 [] kids o []) y):=fun w0 B0=>
  (arr_reads hk (List.length_pos_iff.2 hne) hm g r h w0 Hh B0).mono fun e w' ⟨y,he,hg⟩=>⟨y,he,hg.1,hg.2.imp fun W hW=>GVs.arr hW hne .nil⟩
 rcases Hh with⟨s,c,rfl,_⟩ | ⟨p,q,rfl,_⟩
 ·exact anyV 224 204 (by simp) g _ r (fun y w=>GV w (.mk 23 0 [] kids o []) y) w B D
 ·exact anyV 240 204 (by simp) g _ r (fun y w=>GV w (.mk 23 0 [] kids o []) y) w B D
theorem reads_of{l:List V}{b:List UInt8}(h:EncV l b):ReadsL l b:=by
 induction h with
 | nil=>exact .nil
 | leaf h hs ih=>exact .cons (leaf_reads h) ih
 | list0 hs ih=>exact .cons (list0_reads _) ih
 | list hk hh hm hs ih1 ih2=>exact .cons (list_reads _ _ _ _ ih1 hk.len hh hm) ih2
 | map hk hh hm ok hs ih1 ih2=>exact .cons (map_reads _ _ _ _ ih1 (by have:=hk.len;rwa [flat2_len]at this) hh hm ok) ih2
 | arr hk hh hm hne hs ih2=>exact .cons (array_reads _ _ _ _ _ hk hh hm hne) ih2
def TextK(k:Int):Prop:=k=19∨k=20
theorem TextK.key{k:Int}(h:TextK k):KeyK k:=by unfold TextK at h;unfold KeyK;omega
def ReadsT(t b:List UInt8):Prop:=
 ∀(g:Nat) (r:List UInt8) (w:World),Buf w g (b++r)→Calls Tryz.prog 107 #[.pointer (some ⟨g,0,none⟩)] w fun e w'=>e=.returned (.tuple #[.string ⟨t.toArray⟩,.nilIface])∧Adv g r w w'
theorem text_reads{v:V}{b:List UInt8}(h:Leaf v b)(hk:TextK v.kind):ReadsT v.text b∧v.text.length<4294967296∧v.num=0∧∃o,v=.mk v.kind 0 v.text [] o []:=by
 cases h
 case str8 t o h=>
  have hb:UInt8.toNat (UInt8.ofNat (t.length/256 ^ 0 % 256))=t.length:=by rw [b1];omega
  exact⟨fun g r w B=>readString_8 g 161 (by decide) t r _ hb w (by simpa [beB]using B),by show t.length<_;omega,rfl,o,rfl⟩
 case sym8 t o h=>
  have hb:UInt8.toNat (UInt8.ofNat (t.length/256 ^ 0 % 256))=t.length:=by rw [b1];omega
  exact⟨fun g r w B=>readString_8 g 163 (by decide) t r _ hb w (by simpa [beB]using B),by show t.length<_;omega,rfl,o,rfl⟩
 case str32 t o h=>exact⟨fun g r w B=>readString_32 g 177 (by decide) (beB 4 t.length) t r (beB_len _ _) (beNat_beB _ _ (by simpa using h)) w (by simpa using B),h,rfl,o,rfl⟩
 case sym32 t o h=>exact⟨fun g r w B=>readString_32 g 179 (by decide) (beB 4 t.length) t r (beB_len _ _) (beNat_beB _ _ (by simpa using h)) w (by simpa using B),h,rfl,o,rfl⟩
 all_goals (simp [TextK,V.kind]at hk)
inductive TextsL:List (V×V)→List UInt8→Prop where
 | nil:TextsL [] []
 | cons {q:V×V} {ps:List (V×V)} {b1 b2 bs:List UInt8} (h1:ReadsT q.1.text b1) (hl:q.1.text.length<4294967296) (h2:Reads q.2 b2) (hs:TextsL ps bs):TextsL (q::ps) (b1++(b2++bs))
theorem TextsL.inv{q:V×V}{ps:List (V×V)}{b:List UInt8}(h:TextsL (q::ps) b):∃b1 b2 bs,b=b1++(b2++bs)∧ReadsT q.1.text b1∧q.1.text.length<4294967296∧Reads q.2 b2∧TextsL ps bs:=by
 cases h with
 | cons h1 hl h2 hs=>exact⟨_,_,_,rfl,h1,hl,h2,hs⟩
theorem EncV.leaf_inv{k:V}{l:List V}{b:List UInt8}(h:EncV (k::l) b)(hk:KeyK k.kind):∃b1 b2,b=b1++b2∧Leaf k b1∧EncV l b2:=by
 cases h with
 | leaf h hs=>exact⟨_,_,rfl,h,hs⟩
 | _=>simp [KeyK,V.kind]at hk
theorem EncV.inv{k:V}{l:List V}{b:List UInt8}(h:EncV (k::l) b):∃b1 b2,b=b1++b2∧Reads k b1∧EncV l b2:=by
 cases h with
 | leaf h hs=>exact⟨_,_,rfl,leaf_reads h,hs⟩
 | list0 hs=>exact⟨_,_,rfl,list0_reads _,hs⟩
 | list hk hh hm hs=>exact⟨_,_,rfl,list_reads _ _ _ _ (reads_of hk) hk.len hh hm,hs⟩
 | map hk hh hm ok hs=>exact⟨_,_,rfl,map_reads _ _ _ _ (reads_of hk) (by have:=hk.len;rwa [flat2_len]at this) hh hm ok,hs⟩
 | arr hk hh hm hne hs=>exact⟨_,_,rfl,array_reads _ _ _ _ _ hk hh hm hne,hs⟩
theorem texts_of:∀{ps:List (V×V)} {b:List UInt8},EncV (flat2 ps) b→(∀q∈ps,TextK q.1.kind)→TextsL ps b
 | [],_,h,_=>by cases h;exact .nil
 | q::ps,b,h,hk=>by
   have h1:EncV (q.1::q.2::flat2 ps) b:=h
   have hq:=hk q (List.mem_cons_self ..)
   obtain⟨b1,b2,rfl,hl,h2⟩:=h1.leaf_inv hq.key
   obtain⟨b3,b4,rfl,h3,h4⟩:=h2.inv
   obtain⟨r1,r2,_,_⟩:=text_reads hl hq
   exact .cons r1 r2 h3 (texts_of h4 fun q' hq'=>hk q' (List.mem_cons_of_mem _ hq'))
def MapT(w:World)(base m:Nat)(ps:List (V×V)):Prop:=
 ∃es clock,w.heap[m]? =some (.map es clock)∧Born es clock∧es.size=ps.length∧∀j (hj:j<ps.length) (he:j<es.size),es[j].key=.string ⟨ps[j].1.text.toArray⟩∧Dep (fun b=>base≤b∧b≠m) w (fun w=>GV w ps[j].2 es[j].val)
section
variable {w w':World} {base m:Nat} {ps:List (V×V)}
theorem MapT.nil(h:w.heap[m]? =some (.map #[] 0)):MapT w base m []:=⟨#[],0,h,⟨by simp,by simp⟩,rfl,fun j hj=>absurd hj (by simp)⟩
theorem MapT.keep{ok:Nat→Prop}(h:MapT w base m ps)(kp:Keep ok w w')(ho:ok m)(hb:∀b,base≤b→ok b):MapT w' base m ps:=by
 obtain⟨es,clock,hm,hbo,hs,hr⟩:=h
 exact⟨es,clock,kp.blk hm ho,hbo,hs,fun j hj he=>⟨(hr j hj he).1,(hr j hj he).2.keep kp (fun b _ hbb=>hb b hbb.1)⟩⟩
theorem MapT.step(h:MapT w base m ps)(t kt:TypeId)(ht:Tryz.prog.underlying t=some (.map kt 20))(hkt:Tryz.prog.underlying kt=some .string){a b:V}(hn:∀q∈ps,q.1.text≠a.text){y:Value}
 (hy:Dep (fun b=>base≤b∧b≠m) w (fun w=>GV w b y)):
 ∃w',(Instr.mapUpdate t (.map (some m)) (.string ⟨a.text.toArray⟩) y).run Tryz.prog w=.ok () w'∧Keep (fun k=>k≠m) w w'∧MapT w' base m (ps++[(a,b)]):=by
 obtain⟨es,clock,hm,hbo,hs,hr⟩:=h
 have hks:∀e∈es.toList,∃s',e.key=.string s'∧(⟨a.text.toArray⟩:ByteArray)≠s':=fun e he=>by
  obtain⟨j,hj,rfl⟩:=List.getElem_of_mem he
  have hje:j<es.size:=by simpa using hj
  have hjp:j<ps.length:=by omega
  refine⟨_,by simpa using (hr j hjp hje).1,fun e=>?_⟩
  injection e with e
  exact hn _ (List.getElem_mem hjp) (by simpa using e.symm)
 obtain⟨w',hrun,hm',kk⟩:=update_text w t kt ht hkt m es clock hm _ y hks
 refine⟨w',hrun,kk,_,_,hm',born_push hbo _ _,by simp [hs],fun j hj he=>?_⟩
 have kk':∀{φ:World→Prop},Dep (fun b=>base≤b∧b≠m) w φ→Dep (fun b=>base≤b∧b≠m) w' φ:=fun h=>h.keep kk (fun b _ hb=>hb.2)
 by_cases e:j<es.size
 ·have hjp:j<ps.length:=by omega
  rw [Array.getElem_push_lt e]
  simp only [List.getElem_append_left hjp]
  exact⟨(hr j hjp e).1,kk' (hr j hjp e).2⟩
 ·have hje:j=es.size:=by simp at he;omega
  subst hje
  rw [Array.getElem_push_eq,List.getElem_append_right (by omega)]
  have e0:es.size-ps.length=0:=by omega
  simp only [e0,List.getElem_cons_zero]
  exact⟨trivial,kk' hy⟩
def TMapD(ok:Nat→Prop)(w:World)(ps:List (V×V))(s:Value):Prop:=
 ∃m es clock,s=.map (some m)∧Born es clock∧es.size=ps.length∧(∀j (hj:j<ps.length) (he:j<es.size),es[j].key=.string ⟨ps[j].1.text.toArray⟩)∧
  Dep ok w (fun w=>w.heap[m]? =some (.map es clock)∧∀j (hj:j<ps.length) (he:j<es.size),GV w ps[j].2 es[j].val)
theorem MapT.out{b0:Nat}(h:MapT w base m ps)(h1:b0≤base)(h2:b0≤m):TMapD (fun b=>b0≤b) w ps (.map (some m)):=by
 obtain⟨es,clock,hm,hbo,hs,hr⟩:=h
 exact⟨m,es,clock,rfl,hbo,hs,fun j hj he=>(hr j hj he).1,fun w' hw=>⟨(hw m (lt_blk hm) h2).trans hm,fun j hj he=>(hr j hj he).2 w' (fun b hb hbb=>hw b hb (Nat.le_trans h1 hbb.1))⟩⟩
end
theorem textMap_is(g:Nat)(p:Addr)(hpg:p.block≠g)(ps:List (V×V))(body r h:List UInt8)(hmax:2*ps.length≤1000)(hlen:2*ps.length≤body.length)(Hh:Hd 193 209 (2*ps.length) body h)(HR:TextsL ps body)(hnd:(ps.map fun q=>q.1.text).Nodup)
 (w:World) (u:Value) (hc:w.cell? p=some u) (hf:w.frozen? p=false) (B:Buf w g (h++(body++r))):
 Calls Tryz.prog 129 #[.pointer (some p),.pointer (some ⟨g,0,none⟩)] w fun e w'=>e=.returned .nilIface∧∃sl w1,w'=w1.setCell p sl∧Adv g r w w1∧TMapD (fun k=>w.heap.size≤k) w1 ps sl:=by
 obtain⟨n,hn⟩:∃n,n=ps.length:=⟨_,rfl⟩
 have hq:(2*(n:Int)).tdiv 2=n:=by rw [Int.tdiv_eq_ediv_of_nonneg (by omega)];omega
 have N:=Lib.hid hn
 have HP:=Lib.hid hpg
 have BD:=Lib.hid HR
 have ND:=Lib.hid hnd
 have hgw:=B.lt
 have hlt:=cell_lt hc
 have hmk:=makeMap_n 394 9 20 Tryz.underlying394 .u32 n
 have hnm:2*n≤1000:=by omega
 clear hn hpg HR hnd
 go_enter Tryz.func129,Tryz.ntmps129
 go_wp2_with fail
 refine(mapHead g (2*ps.length) body r h Hh hlen (by omega) _ B).mono ?_
 rintro e w0 ⟨rfl,h0⟩
 have hcast:((2*ps.length:Nat):Int)=2*(n:Int):=by rw [←N.out];omega
 rw [hcast]
 have hc0:=h0.1.cell hc HP.out
 have hf0:w0.frozen? p=false:=(h0.1.free hlt HP.out).trans hf
 have hs0:=h0.1.size
 have hgl0:=h0.2.lt
 clear hcast
 go_wp2_with fail
 go_loopg [8] n (fun k s8 wr=>∃(j:Nat) (bj:List UInt8),j+k=n∧s8=.int .u32 (2*(j:Int))∧TextsL (ps.drop j) bj∧Keep (fun k=>k≠g) w0 wr∧Buf wr g (bj++r)∧MapT wr w.heap.size w0.heap.size (ps.take j))
 case atStart=>exact⟨0,body,by omega,rfl,BD.out,(Keep.refl _ _).alloc _,h0.2.new ((Keep.refl _ _).alloc _),MapT.nil (blk_new _ _)⟩
 case round=>
  obtain⟨j,bj,hj,rfl,hLj,kr,hBr,fl⟩:=hrel
  have LJ:=Lib.hid hLj
  clear hLj
  cases gk with
  | zero=>
    obtain rfl:j=n:=by omega
    have hcr:=kr.cell hc0 HP.out
    have hfr:wr.frozen? p=false:=(kr.free (cell_lt hc0) HP.out).trans hf0
    have hnil:bj=[]:=by
     have:=LJ.out
     rw [N.out,List.drop_length]at this
     cases this;rfl
    rw [hnil,List.nil_append]at hBr
    rw [N.out,List.take_length]at fl
    go_wp2
    go_ret
    exact⟨rfl,_,wr,rfl,⟨h0.1.trans kr,hBr⟩,fl.out (Nat.le_refl _) hs0⟩
  | succ k=>
    have hjn:j<n:=by omega
    have tj:decide (2*(j:Int)<2*n)=true:=by simp;omega
    have tj2:decide (j<n)=true:=by simpa using hjn
    have wj:IntKind.u32.wrap (2*(j:Int)+2)=2*j+2:=by rw [IntKind.wrap_u32];omega
    have hjx:j<ps.length:=by rw [←N.out];exact hjn
    have hL:=LJ.out
    rw [List.drop_eq_getElem_cons hjx]at hL
    obtain⟨b1,b2,b3,rfl,hq1,hql,hq2,hL2⟩:=hL.inv
    have Q1:=Lib.hid hq1
    have Q2:=Lib.hid hq2
    have L2:=Lib.hid hL2
    clear hL hL2 LJ hq1 hq2 hql
    simp only [List.append_assoc]at hBr
    go_wp2_with fail
    refine(Q1.out g (b2++(b3++r)) _ hBr).mono ?_
    rintro e w4 ⟨rfl,h4⟩
    go_wp2_with fail
    refine(Q2.out g (b3++r) _ h4.2).mono ?_
    rintro e w5 ⟨y,rfl,h5,hy⟩
    have h45:=h4.1.trans h5.1
    have e1:=kr.size
    have e2:=h4.1.size
    have e3:=h5.1.size
    have hlm:=lt_blk fl.choose_spec.choose_spec.1
    have fl5:=fl.keep h45 (show w0.heap.size≠g by omega) (fun b hb=>by omega)
    have hy5:Dep (fun b=>w.heap.size≤b∧b≠w0.heap.size) w5 (fun w=>GV w ps[j].2 y):=hy.mono (fun b _ hb=>by omega)
    have hnew:∀q∈ps.take j,q.1.text≠ps[j].1.text:=by
     intro q hq he
     obtain⟨i,hi,rfl⟩:=List.getElem_of_mem hq
     rw [List.length_take]at hi
     rw [List.getElem_take]at he
     exact List.pairwise_iff_getElem.1 ND.out i j (by simp;omega) (by simpa using hjx) (by omega) (by simpa using he)
    obtain⟨w7,hup,k7,fl7⟩:=fl5.step 394 9 Tryz.underlying394 Tryz.underlying9 hnew hy5
    have UP:=Lib.hid hup
    rw [List.take_append_getElem hjx]at fl7
    clear hy hy5 hup hnew
    go_wp2_with (at_mapUpdate;refine wpList_mapUpdate_eq _ w7 rfl _ _ _ 394 rfl _ _ _ rfl rfl rfl UP.out ?_)
    go_roundg k
    case measure=>omega
    case rel=>
     refine⟨j+1,b3,by omega,congrArg _ (by omega),L2.out,?_,?_,fl7⟩
     ·exact(kr.trans h45).then k7 (fun i hi _=>by omega)
     ·exact h5.2.keep k7 (fun i hi=>by omega)
theorem symbolMap_is(g:Nat)(p:Addr)(hpg:p.block≠g)(ps:List (V×V))(body r h:List UInt8)(hmax:2*ps.length≤1000)(hlen:2*ps.length≤body.length)(Hh:Hd 193 209 (2*ps.length) body h)(HR:TextsL ps body)(hnd:(ps.map fun q=>q.1.text).Nodup)
 (w:World) (u:Value) (hc:w.cell? p=some u) (hf:w.frozen? p=false) (B:Buf w g (h++(body++r))):
 Calls Tryz.prog 130 #[.pointer (some p),.pointer (some ⟨g,0,none⟩)] w fun e w'=>e=.returned .nilIface∧∃sl w1,w'=w1.setCell p sl∧Adv g r w w1∧TMapD (fun k=>w.heap.size≤k) w1 ps sl:=by
 obtain⟨n,hn⟩:∃n,n=ps.length:=⟨_,rfl⟩
 have hq:(2*(n:Int)).tdiv 2=n:=by rw [Int.tdiv_eq_ediv_of_nonneg (by omega)];omega
 have N:=Lib.hid hn
 have HP:=Lib.hid hpg
 have BD:=Lib.hid HR
 have ND:=Lib.hid hnd
 have hgw:=B.lt
 have hlt:=cell_lt hc
 have hmk:=makeMap_n 395 158 20 Tryz.underlying395 .u32 n
 have hnm:2*n≤1000:=by omega
 clear hn hpg HR hnd
 go_enter Tryz.func130,Tryz.ntmps130
 go_wp2_with fail
 refine(mapHead g (2*ps.length) body r h Hh hlen (by omega) _ B).mono ?_
 rintro e w0 ⟨rfl,h0⟩
 have hcast:((2*ps.length:Nat):Int)=2*(n:Int):=by rw [←N.out];omega
 rw [hcast]
 have hc0:=h0.1.cell hc HP.out
 have hf0:w0.frozen? p=false:=(h0.1.free hlt HP.out).trans hf
 have hs0:=h0.1.size
 have hgl0:=h0.2.lt
 clear hcast
 go_wp2_with fail
 go_loopg [8] n (fun k s8 wr=>∃(j:Nat) (bj:List UInt8),j+k=n∧s8=.int .u32 (2*(j:Int))∧TextsL (ps.drop j) bj∧Keep (fun k=>k≠g) w0 wr∧Buf wr g (bj++r)∧MapT wr w.heap.size w0.heap.size (ps.take j))
 case atStart=>exact⟨0,body,by omega,rfl,BD.out,(Keep.refl _ _).alloc _,h0.2.new ((Keep.refl _ _).alloc _),MapT.nil (blk_new _ _)⟩
 case round=>
  obtain⟨j,bj,hj,rfl,hLj,kr,hBr,fl⟩:=hrel
  have LJ:=Lib.hid hLj
  clear hLj
  cases gk with
  | zero=>
    obtain rfl:j=n:=by omega
    have hcr:=kr.cell hc0 HP.out
    have hfr:wr.frozen? p=false:=(kr.free (cell_lt hc0) HP.out).trans hf0
    have hnil:bj=[]:=by
     have:=LJ.out
     rw [N.out,List.drop_length]at this
     cases this;rfl
    rw [hnil,List.nil_append]at hBr
    rw [N.out,List.take_length]at fl
    go_wp2
    go_ret
    exact⟨rfl,_,wr,rfl,⟨h0.1.trans kr,hBr⟩,fl.out (Nat.le_refl _) hs0⟩
  | succ k=>
    have hjn:j<n:=by omega
    have tj:decide (2*(j:Int)<2*n)=true:=by simp;omega
    have tj2:decide (j<n)=true:=by simpa using hjn
    have wj:IntKind.u32.wrap (2*(j:Int)+2)=2*j+2:=by rw [IntKind.wrap_u32];omega
    have hjx:j<ps.length:=by rw [←N.out];exact hjn
    have hL:=LJ.out
    rw [List.drop_eq_getElem_cons hjx]at hL
    obtain⟨b1,b2,b3,rfl,hq1,hql,hq2,hL2⟩:=hL.inv
    have Q1:=Lib.hid hq1
    have Q2:=Lib.hid hq2
    have L2:=Lib.hid hL2
    clear hL hL2 LJ hq1 hq2 hql
    simp only [List.append_assoc]at hBr
    go_wp2_with fail
    refine(Q1.out g (b2++(b3++r)) _ hBr).mono ?_
    rintro e w4 ⟨rfl,h4⟩
    go_wp2_with fail
    refine(Q2.out g (b3++r) _ h4.2).mono ?_
    rintro e w5 ⟨y,rfl,h5,hy⟩
    have h45:=h4.1.trans h5.1
    have e1:=kr.size
    have e2:=h4.1.size
    have e3:=h5.1.size
    have hlm:=lt_blk fl.choose_spec.choose_spec.1
    have fl5:=fl.keep h45 (show w0.heap.size≠g by omega) (fun b hb=>by omega)
    have hy5:Dep (fun b=>w.heap.size≤b∧b≠w0.heap.size) w5 (fun w=>GV w ps[j].2 y):=hy.mono (fun b _ hb=>by omega)
    have hnew:∀q∈ps.take j,q.1.text≠ps[j].1.text:=by
     intro q hq he
     obtain⟨i,hi,rfl⟩:=List.getElem_of_mem hq
     rw [List.length_take]at hi
     rw [List.getElem_take]at he
     exact List.pairwise_iff_getElem.1 ND.out i j (by simp;omega) (by simpa using hjx) (by omega) (by simpa using he)
    obtain⟨w7,hup,k7,fl7⟩:=fl5.step 395 158 Tryz.underlying395 Tryz.underlying158 hnew hy5
    have UP:=Lib.hid hup
    rw [List.take_append_getElem hjx]at fl7
    clear hy hy5 hup hnew
    go_wp2_with (at_mapUpdate;refine wpList_mapUpdate_eq _ w7 rfl _ _ _ 395 rfl _ _ _ rfl rfl rfl UP.out ?_)
    go_roundg k
    case measure=>omega
    case rel=>
     refine⟨j+1,b3,by omega,congrArg _ (by omega),L2.out,?_,?_,fl7⟩
     ·exact(kr.trans h45).then k7 (fun i hi _=>by omega)
     ·exact h5.2.keep k7 (fun i hi=>by omega)
def plainV(k:Int)(n:Nat)(t:List UInt8):Value:=.agg #[.int .i64 k,.int .u64 (n:Int),.string ⟨t.toArray⟩,.slice none 0 0,.int .i64 0,.slice none 0 0]
theorem u64n{n:Nat}(h:n<18446744073709551616):IntKind.u64.wrap (n:Int)=n:=by rw [IntKind.wrap_u64];omega
theorem u64s{n:Nat}(h:n<18446744073709551616):IntKind.u64.wrap (sgn n)=n:=by
 rw [IntKind.wrap_u64]
 unfold sgn wrap64
 omega
theorem flag_is(b:Bool)(w:World):Calls Tryz.prog 147 #[.bool b] w fun e w'=>e=.returned (.int .u64 (if b then 1 else 0))∧New w w':=by
 cases b
 all_goals
  go_enter Tryz.func147,Tryz.ntmps147
  go_wp2
  go_ret
  exact⟨rfl,Keep.refl _ _⟩
theorem valued_null(w:World):Calls Tryz.prog 91 #[.nilIface] w fun e w'=>e=.returned (.tuple #[plainV 0 0 [],.bool true])∧New w w':=by
 go_enter Tryz.func91,Tryz.ntmps91
 go_wp2
 refine bodyPost_ret (v:=.tuple #[plainV 0 0 [],.bool true]) (by simp [results,Tryz.results91,go_sem,plainV]) rfl ⟨rfl,?_⟩
 exact(Keep.refl _ w).alloc _
theorem valued_u8(n:Nat)(h:n<256)(w:World):Calls Tryz.prog 91 #[.iface 5 (.int .u8 n)] w fun e w'=>e=.returned (.tuple #[plainV 2 n [],.bool true])∧New w w':=by
 have hu:=u64n (n:=n) (by omega)
 go_enter Tryz.func91,Tryz.ntmps91
 go_wp2
 refine bodyPost_ret (v:=.tuple #[plainV 2 n [],.bool true]) (by simp [results,Tryz.results91,go_sem,plainV]) rfl ⟨rfl,?_⟩
 exact(Keep.refl _ w).alloc _
theorem valued_u16(n:Nat)(h:n<65536)(w:World):Calls Tryz.prog 91 #[.iface 117 (.int .u16 n)] w fun e w'=>e=.returned (.tuple #[plainV 3 n [],.bool true])∧New w w':=by
 have hu:=u64n (n:=n) (by omega)
 go_enter Tryz.func91,Tryz.ntmps91
 go_wp2
 refine bodyPost_ret (v:=.tuple #[plainV 3 n [],.bool true]) (by simp [results,Tryz.results91,go_sem,plainV]) rfl ⟨rfl,?_⟩
 exact(Keep.refl _ w).alloc _
theorem valued_u32(n:Nat)(h:n<4294967296)(w:World):Calls Tryz.prog 91 #[.iface 22 (.int .u32 n)] w fun e w'=>e=.returned (.tuple #[plainV 4 n [],.bool true])∧New w w':=by
 have hu:=u64n (n:=n) (by omega)
 go_enter Tryz.func91,Tryz.ntmps91
 go_wp2
 refine bodyPost_ret (v:=.tuple #[plainV 4 n [],.bool true]) (by simp [results,Tryz.results91,go_sem,plainV]) rfl ⟨rfl,?_⟩
 exact(Keep.refl _ w).alloc _
theorem valued_u64(n:Nat)(h:n<18446744073709551616)(w:World):Calls Tryz.prog 91 #[.iface 26 (.int .u64 n)] w fun e w'=>e=.returned (.tuple #[plainV 5 n [],.bool true])∧New w w':=by
 have hu:=u64n (n:=n) (by omega)
 go_enter Tryz.func91,Tryz.ntmps91
 go_wp2
 refine bodyPost_ret (v:=.tuple #[plainV 5 n [],.bool true]) (by simp [results,Tryz.results91,go_sem,plainV]) rfl ⟨rfl,?_⟩
 exact(Keep.refl _ w).alloc _
theorem valued_i8(n:Nat)(h:Fits 8 n)(w:World):Calls Tryz.prog 91 #[.iface 191 (.int .i8 (sgn n))] w fun e w'=>e=.returned (.tuple #[plainV 6 n [],.bool true])∧New w w':=by
 have hu:=u64s h.1
 go_enter Tryz.func91,Tryz.ntmps91
 go_wp2
 refine bodyPost_ret (v:=.tuple #[plainV 6 n [],.bool true]) (by simp [results,Tryz.results91,go_sem,plainV]) rfl ⟨rfl,?_⟩
 exact(Keep.refl _ w).alloc _
theorem valued_i16(n:Nat)(h:Fits 16 n)(w:World):Calls Tryz.prog 91 #[.iface 195 (.int .i16 (sgn n))] w fun e w'=>e=.returned (.tuple #[plainV 7 n [],.bool true])∧New w w':=by
 have hu:=u64s h.1
 go_enter Tryz.func91,Tryz.ntmps91
 go_wp2
 refine bodyPost_ret (v:=.tuple #[plainV 7 n [],.bool true]) (by simp [results,Tryz.results91,go_sem,plainV]) rfl ⟨rfl,?_⟩
 exact(Keep.refl _ w).alloc _
theorem valued_i32(n:Nat)(h:Fits 32 n)(w:World):Calls Tryz.prog 91 #[.iface 21 (.int .i32 (sgn n))] w fun e w'=>e=.returned (.tuple #[plainV 8 n [],.bool true])∧New w w':=by
 have hu:=u64s h.1
 go_enter Tryz.func91,Tryz.ntmps91
 go_wp2
 refine bodyPost_ret (v:=.tuple #[plainV 8 n [],.bool true]) (by simp [results,Tryz.results91,go_sem,plainV]) rfl ⟨rfl,?_⟩
 exact(Keep.refl _ w).alloc _
theorem valued_i64(n:Nat)(h:Fits 64 n)(w:World):Calls Tryz.prog 91 #[.iface 2 (.int .i64 (sgn n))] w fun e w'=>e=.returned (.tuple #[plainV 9 n [],.bool true])∧New w w':=by
 have hu:=u64s h.1
 go_enter Tryz.func91,Tryz.ntmps91
 go_wp2
 refine bodyPost_ret (v:=.tuple #[plainV 9 n [],.bool true]) (by simp [results,Tryz.results91,go_sem,plainV]) rfl ⟨rfl,?_⟩
 exact(Keep.refl _ w).alloc _
theorem valued_f32(n:Nat)(h:n<4294967296)(w:World):Calls Tryz.prog 91 #[.iface 212 (.float .f32 n)] w fun e w'=>e=.returned (.tuple #[plainV 10 n [],.bool true])∧New w w':=by
 have hu:=u64n (n:=n) (by omega)
 go_enter Tryz.func91,Tryz.ntmps91
 go_wp2
 refine bodyPost_ret (v:=.tuple #[plainV 10 n [],.bool true]) (by simp [results,Tryz.results91,go_sem,plainV]) rfl ⟨rfl,?_⟩
 exact(Keep.refl _ w).alloc _
theorem valued_f64(n:Nat)(h:n<18446744073709551616)(w:World):Calls Tryz.prog 91 #[.iface 216 (.float .f64 n)] w fun e w'=>e=.returned (.tuple #[plainV 11 n [],.bool true])∧New w w':=by
 have hu:=u64n (n:=n) (by omega)
 go_enter Tryz.func91,Tryz.ntmps91
 go_wp2
 refine bodyPost_ret (v:=.tuple #[plainV 11 n [],.bool true]) (by simp [results,Tryz.results91,go_sem,plainV]) rfl ⟨rfl,?_⟩
 exact(Keep.refl _ w).alloc _
theorem conv_cells(w:World)(d i c:Nat)(l:List UInt8)(h:∀j (hj:j<l.length),w.cell? ⟨d,i+j,none⟩=some (.int .u8 (l[j].toNat:Int))):(convert 27 9 (.slice (some ⟨d,i,none⟩) l.length c)).run Tryz.prog w=.ok (.string ⟨l.toArray⟩) w:=by
 have fo:∀m:List UInt8,(m.map fun b=>(b.toNat:Int)).map (fun n=>UInt8.ofNat n.toNat)=m:=fun m=>by
  rw [List.map_map];conv=>rhs;rw [←List.map_id m]
  apply List.map_congr_left;intro b _;simp
 have:=run_convert_bytes_arg (P:=Tryz.prog) w 27 5 Tryz.underlying27 Tryz.underlying5 d i l.length c (l.map fun b=>(b.toNat:Int)) (by simp) (fun j hj=>by
  rw [h j hj];simp [List.getD,hj]) 9 Tryz.underlying9
 rw [this]
 simp only [strOfNums,fo]
theorem valued_bool(n:Nat)(h:n≤1)(w:World):Calls Tryz.prog 91 #[.iface 4 (.bool (n !=0))] w fun e w'=>e=.returned (.tuple #[plainV 1 n [],.bool true])∧New w w':=by
 have hf:(if (n !=0)=true then(1:Int)else 0)=n:=by
  match n,h with
  | 0,_=>rfl
  | 1,_=>rfl
 obtain⟨b,hb⟩:∃b,b=(n !=0):=⟨_,rfl⟩
 rw [←hb]at hf ⊢
 have HF:=Lib.hid hf
 clear hf hb
 go_enter Tryz.func91,Tryz.ntmps91
 go_wp2_with fail
 refine(flag_is b _).mono ?_
 rintro e w1 ⟨rfl,k1⟩
 rw [HF.out]
 have k2:=(((Keep.refl (fun _=>True) w).alloc _).trans k1)
 have hb:=k1.blk (blk_new w _) trivial
 have c0:=(blk_cell hb 0).trans rfl
 have c1:=(blk_cell hb 1).trans rfl
 have c2:=(blk_cell hb 2).trans rfl
 have c3:=(blk_cell hb 3).trans rfl
 have c4:=(blk_cell hb 4).trans rfl
 have c5:=(blk_cell hb 5).trans rfl
 have f0:=blk_free hb 0
 have f1:=blk_free hb 1
 have f2:=blk_free hb 2
 have f3:=blk_free hb 3
 have f4:=blk_free hb 4
 have f5:=blk_free hb 5
 clear hb
 go_wp2
 refine bodyPost_ret (v:=.tuple #[plainV 1 n [],.bool true]) (by simp [results,Tryz.results91,go_sem,plainV,c0,c1,c2,c3,c4,c5]) rfl ⟨rfl,?_⟩
 repeat (refine Keep.setCell ?_ (.inl (Nat.le_refl _)) _)
 exact k2
theorem valued_str(t:List UInt8)(w:World):Calls Tryz.prog 91 #[.iface 9 (.string ⟨t.toArray⟩)] w fun e w'=>e=.returned (.tuple #[plainV 19 0 t,.bool true])∧New w w':=by
 go_enter Tryz.func91,Tryz.ntmps91
 go_wp2
 refine bodyPost_ret (v:=.tuple #[plainV 19 0 t,.bool true]) (by simp [results,Tryz.results91,go_sem,plainV]) rfl ⟨rfl,?_⟩
 exact(Keep.refl _ w).alloc _
theorem valued_bin(s:Value)(t:List UInt8)(w:World)(hs:SlB w s t):Calls Tryz.prog 91 #[.iface 27 s] w fun e w'=>e=.returned (.tuple #[plainV 18 0 t,.bool true])∧New w w':=by
 have hc:=fun u (k:New w u)=>conv_string u s t (hs.new k)
 have HC:=Lib.hid hc
 have hc1:=HC.out _ ((Keep.refl (fun _=>True) w).alloc (.cells #[.int .i64 0,.int .u64 0,.string ⟨#[]⟩,.slice none 0 0,.int .i64 0,.slice none 0 0] 78))
 clear hc
 go_enter Tryz.func91,Tryz.ntmps91
 go_wp2
 refine bodyPost_ret (v:=.tuple #[plainV 18 0 t,.bool true]) (by simp [results,Tryz.results91,go_sem,plainV]) rfl ⟨rfl,?_⟩
 exact(Keep.refl _ w).alloc _
theorem valued_time(n:Nat)(h:n<18446744073709551616)(w:World):Calls Tryz.prog 91 #[.iface 228 (timeV (sgn n))] w fun e w'=>e=.returned (.tuple #[plainV 16 n [],.bool true])∧New w w':=by
 have hu:=u64s h
 have hw:=wrap64_in (n:Int)
 go_enter Tryz.func91,Tryz.ntmps91
 simp only [timeV]
 go_wp2_with fail
 refine(unixMilli_is (sgn n) _ hw.1 hw.2).mono ?_
 rintro e w1 ⟨rfl,k1⟩
 have k2:=((((Keep.refl (fun _=>True) w).alloc _).alloc _).trans k1)
 have hb:=k1.blk (blk_alloc (blk_new w _) _) trivial
 have c0:=(blk_cell hb 0).trans rfl
 have c1:=(blk_cell hb 1).trans rfl
 have c2:=(blk_cell hb 2).trans rfl
 have c3:=(blk_cell hb 3).trans rfl
 have c4:=(blk_cell hb 4).trans rfl
 have c5:=(blk_cell hb 5).trans rfl
 have f0:=blk_free hb 0
 have f1:=blk_free hb 1
 have f2:=blk_free hb 2
 have f3:=blk_free hb 3
 have f4:=blk_free hb 4
 have f5:=blk_free hb 5
 clear hb
 go_wp2
 refine bodyPost_ret (v:=.tuple #[plainV 16 n [],.bool true]) (by simp [results,Tryz.results91,go_sem,plainV,c0,c1,c2,c3,c4,c5]) rfl ⟨rfl,?_⟩
 repeat (refine Keep.setCell ?_ (.inl (Nat.le_refl _)) _)
 exact k2
theorem valued_uuid(t:List UInt8)(h:t.length=16)(w:World):Calls Tryz.prog 91 #[.iface 309 (uuidV t)] w fun e w'=>e=.returned (.tuple #[plainV 17 0 t,.bool true])∧New w w':=by
 obtain⟨a0,a1,a2,a3,a4,a5,a6,a7,a8,a9,a10,a11,a12,a13,a14,a15,rfl⟩:=sixteen_of h
 simp only [uuidV,List.map_cons,List.map_nil]
 have hc:=conv_cells ((w.alloc (.cells #[.int .i64 0,.int .u64 0,.string ⟨#[]⟩,.slice none 0 0,.int .i64 0,.slice none 0 0] 78)).alloc (.cells #[.int .u8 a0.toNat,.int .u8 a1.toNat,.int .u8 a2.toNat,.int .u8 a3.toNat,.int .u8 a4.toNat,.int .u8 a5.toNat,.int .u8 a6.toNat,.int .u8 a7.toNat,.int .u8 a8.toNat,.int .u8 a9.toNat,.int .u8 a10.toNat,.int .u8 a11.toNat,.int .u8 a12.toNat,.int .u8 a13.toNat,.int .u8 a14.toNat,.int .u8 a15.toNat] 309)) (w.heap.size+1) 0 16 [a0,a1,a2,a3,a4,a5,a6,a7,a8,a9,a10,a11,a12,a13,a14,a15] (fun j hj=>by
  have hb:=blk_new (w.alloc (.cells #[.int .i64 0,.int .u64 0,.string ⟨#[]⟩,.slice none 0 0,.int .i64 0,.slice none 0 0] 78)) (.cells #[.int .u8 a0.toNat,.int .u8 a1.toNat,.int .u8 a2.toNat,.int .u8 a3.toNat,.int .u8 a4.toNat,.int .u8 a5.toNat,.int .u8 a6.toNat,.int .u8 a7.toNat,.int .u8 a8.toNat,.int .u8 a9.toNat,.int .u8 a10.toNat,.int .u8 a11.toNat,.int .u8 a12.toNat,.int .u8 a13.toNat,.int .u8 a14.toNat,.int .u8 a15.toNat] 309)
  simp only [World.size_alloc]at hb
  rw [blk_cell hb]
  match j,hj with
  | 0,_=>rfl
  | 1,_=>rfl
  | 2,_=>rfl
  | 3,_=>rfl
  | 4,_=>rfl
  | 5,_=>rfl
  | 6,_=>rfl
  | 7,_=>rfl
  | 8,_=>rfl
  | 9,_=>rfl
  | 10,_=>rfl
  | 11,_=>rfl
  | 12,_=>rfl
  | 13,_=>rfl
  | 14,_=>rfl
  | 15,_=>rfl
  | n+16,h=>simp at h;omega)
 simp only [List.length_cons,List.length_nil]at hc
 go_enter Tryz.func91,Tryz.ntmps91
 go_wp2
 refine bodyPost_ret (v:=.tuple #[plainV 17 0 [a0,a1,a2,a3,a4,a5,a6,a7,a8,a9,a10,a11,a12,a13,a14,a15],.bool true]) (by simp [results,Tryz.results91,go_sem,plainV]) rfl ⟨rfl,?_⟩
 first | exact((Keep.refl _ w).alloc _).alloc _ | exact(((Keep.refl (fun _=>True) w).alloc _).alloc _).setCell (.inl (Nat.le_refl _)) _
theorem valued_leaf{w:World}{v:V}{x:Value}(h:GLeaf w v x):Calls Tryz.prog 91 #[x] w fun e w'=>e=.returned (.tuple #[plainV (if v.kind=20 then 19 else v.kind) v.num v.text,.bool true])∧New w w':=by
 cases h with
 | null o=>exact valued_null w
 | bool n o h=>exact valued_bool n h w
 | u8 n o h=>exact valued_u8 n h w
 | u16 n o h=>exact valued_u16 n h w
 | u32 n o h=>exact valued_u32 n h w
 | u64 n o h=>exact valued_u64 n h w
 | i8 n o h=>exact valued_i8 n h w
 | i16 n o h=>exact valued_i16 n h w
 | i32 n o h=>exact valued_i32 n h w
 | i64 n o h=>exact valued_i64 n h w
 | f32 n o h=>exact valued_f32 n h w
 | f64 n o h=>exact valued_f64 n h w
 | time n o h=>exact valued_time n h.1 w
 | uuid t o h=>exact valued_uuid t h w
 | bin t o s h=>exact valued_bin s t w h
 | str t o h=>exact valued_str t w
 | sym t o h=>exact valued_str t w
def SlM(w:World)(s:Value)(n:Nat)(cells:List Value):Prop:=
 ∃A c,s=.slice A n c∧n≤c∧c≤maxLen∧cells.length=n*6∧
  (n≠0→∃d i,A=some ⟨d,i,none⟩∧∀q u,cells[q]? =some u→w.cell? ⟨d,i+q,none⟩=some u)
inductive Mem(w:World):List V→List Value→Prop where
 | nil:Mem w [] []
 | cons {k:Int} {n:Nat} {t:List UInt8} {kids desc vs:List V} {o:Int} {sk sd:Value} {ck cd cells:List Value} (hn:n<18446744073709551616)
  (hk:SlM w sk kids.length ck) (hkm:Mem w kids ck) (hd:SlM w sd desc.length cd) (hdm:Mem w desc cd) (hs:Mem w vs cells):
  Mem w (.mk k n t kids o desc::vs) (.int .i64 k::.int .u64 (n:Int)::.string ⟨t.toArray⟩::sk::.int .i64 o::sd::cells)
theorem Mem.len{w:World}{l:List V}{cells:List Value}(h:Mem w l cells):cells.length=l.length*6:=by
 induction h with
 | nil=>rfl
 | cons _ _ _ _ _ _ _ _ ih=>simp only [List.length_cons,ih];omega
theorem Mem.append{w:World}{l1 l2:List V}{c1 c2:List Value}(h1:Mem w l1 c1)(h2:Mem w l2 c2):Mem w (l1++l2) (c1++c2):=by
 induction h1 with
 | nil=>exact h2
 | cons hn hk hkm hd hdm hs _ _ ih=>exact .cons hn hk hkm hd hdm ih
theorem Mem.one{w:World}{l:List V}{cells:List Value}(h:Mem w l cells):∀u∈cells,u.oneCell'=true:=by
 induction h with
 | nil=>intro u hu;simp at hu
 | cons hn hk hkm hd hdm hs _ _ ih=>
   obtain⟨A,c,rfl,_⟩:=hk
   obtain⟨A',c',rfl,_⟩:=hd
   intro u hu
   simp only [List.mem_cons]at hu
   rcases hu with rfl | rfl | rfl | rfl | rfl | rfl | hu
   all_goals first | rfl | exact ih u hu
theorem slM_nil(w:World):SlM w (.slice none 0 0) 0 []:=⟨none,0,rfl,Nat.le_refl _,by unfold maxLen;omega,rfl,fun h=>absurd rfl h⟩
theorem mem_plain(w:World)(k:Int)(n:Nat)(t:List UInt8)(h:n<18446744073709551616):Mem w [.mk k n t [] 0 []] [.int .i64 k,.int .u64 (n:Int),.string ⟨t.toArray⟩,.slice none 0 0,.int .i64 0,.slice none 0 0]:=
 .cons h (slM_nil w) .nil (slM_nil w) .nil .nil
theorem slM_own{w:World}{base:Nat}{v:Value}{n:Nat}{cells:List Value}(h:w.ownsRow base 78 6 v n cells):SlM w v n cells:=by
 obtain⟨h1,h2⟩:=h
 rcases h2 with⟨rfl,rfl⟩ | ⟨g,cap,cur,rfl,hg,hb,hn,hc,hs,ht⟩
 ·have:cells=[]:=List.eq_nil_of_length_eq_zero (by simpa using h1)
  subst this
  exact slM_nil w
 ·refine⟨_,cap,rfl,hn,hc,h1,fun _=>⟨g,0,rfl,fun q u hu=>?_⟩⟩
  have hq:q<n*6:=by
   rw [←h1]
   exact(List.getElem?_eq_some_iff.1 hu).1
  rw [←ht,List.getElem?_take_of_lt hq,Array.getElem?_toList]at hu
  rw [blk_cell hb,Nat.zero_add]
  exact hu
theorem info78:(Tryz.prog.info? 78).map (fun i=>(i.zero,i.size,i.bytes))=some (some (.agg #[.int .i64 0,.int .u64 0,.string .empty,.slice none 0 0,.int .i64 0,.slice none 0 0]),6,88):=by kernel_rfl
theorem append_val(w:World)(base:Nat)(v:Value)(n:Nat)(xs:List Value)(hown:w.ownsRow base 78 6 v n xs)(B c:Nat)(news:List Value)(hl:news.length=6)(hB:w.heap[B]? =some (.cells news.toArray 78 (0,0)))(h1:∀u∈news,u.oneCell'=true)(hn:n≤1000000)(hbase:base≤w.heap.size):
 ∃g cap w',(Builtin.append_ #[43,43] 43 #[v,.slice (some ⟨B,0,none⟩) 1 c]).run Tryz.prog w=.ok (.slice (some ⟨g,0,none⟩) (n+1) cap) w'∧
  w'.ownsRow base 78 6 (.slice (some ⟨g,0,none⟩) (n+1) cap) (n+1) (xs++news)∧Keep (fun k=>some k≠v.ownBlock) w w':=by
 obtain⟨i0,hi,hz,hs,hb⟩:=info_parts info78
 obtain⟨g,cap,w',hr,h2,h3,_,_⟩:=run_append_lies (P:=Tryz.prog) w 43 43 base 78 i0 _ 6 88 Tryz.underlying43 hi hz hs hb rfl (by omega) v n xs hown ⟨B,0,none⟩ 1 c news (by rw [hl]) (fun j u hj=>by
  have hplain:(⟨B,0,none⟩:Addr).add j=⟨B,0+j,none⟩:=by unfold Addr.add;split<;>simp_all
  rw [hplain,blk_cell hB,Nat.zero_add]
  simpa using hj) h1 (by omega) (by unfold maxLen;omega) (by omega) hbase w.heap.size rfl
 exact⟨g,cap,w',hr,h2,Keep.of_grown h3 (fun k hk=>hk)⟩
end Go.Proofs.YtfoegolfadhmjaaGreatDoor
