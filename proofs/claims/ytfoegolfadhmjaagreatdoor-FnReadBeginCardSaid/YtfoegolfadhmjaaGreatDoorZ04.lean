/- Arguments: the values that came in, out of how they read. -/
import Derived.Test.YtfoegolfadhmjaaGreatDoorZ03
import Derived.Lib.ValidLaws
import Derived.Maps.AppendAt
import Derived.Deep.Upon
import Derived.ChangeShapes
import Derived.ChangeMaps5
set_option linter.all false
set_option maxRecDepth 100000
set_option maxHeartbeats 4000000
namespace Go.Proofs.YtfoegolfadhmjaaGreatDoor
open Go.RowKit Go.WideShapes
mutual
def sameV:V→V→Bool
 | .mk k n t ks _ ds,.mk k' n' t' ks' _ ds'=>k==k'&&(n==n'&&(t==t'&&(ks.length==ks'.length&&(ds.length==ds'.length&&(sameVs ks ks'&&sameD ds ds')))))
def sameVs:List V→List V→Bool
 | [],_=>true
 | _::_,[]=>true
 | a::r,b::s=>sameV a b&&sameVs r s
def sameD:List V→List V→Bool
 | [],_=>true
 | _::_,[]=>true
 | a::_,b::_=>sameV a b
end
def trimR:List V→List V
 | []=>[]
 | v::r=>match trimR r with
   | []=>if v.kind=0 then []else [v]
   | u::s=>v::u::s
mutual
def usualV:V→V
 | .mk k n t ks o ds=>match k==23,ks,usualVs ks with
   | true,[.mk k' _ t' _ _ _],us=>if k'=20 then .mk 19 0 t' [] 0 []else .mk k n t us o ds
   | _,_,us=>if k=20 then .mk 19 0 t us 0 ds else if k=21∧ds.length=1 then .mk k n t (trimR us) o ds else .mk k n t us o ds
def usualVs:List V→List V
 | []=>[]
 | a::r=>usualV a::usualVs r
end
def sameAt(f:V→Bool)(k:V):List V→Bool
 | a::b::r=>(sameV k a&&f b) || sameAt f k r
 | _=>false
mutual
def sameL:V→V→Bool
 | .mk k n t ks o ds,b=>
   if k=21 then k==b.kind&&(ks.length==b.kids.length&&(ds.length==b.desc.length&&((ds.length !=1 || sameD ds b.desc)&&sameLs ks b.kids)))
   else if k=22 then k==b.kind&&(ks.length==b.kids.length&&(ds.length==b.desc.length&&((ds.length !=1 || sameD ds b.desc)&&sameM ks b.kids)))
   else sameV (.mk k n t ks o ds) b
def sameLs:List V→List V→Bool
 | [],_=>true
 | _::_,[]=>true
 | a::r,b::s=>sameL a b&&sameLs r s
def sameM:List V→List V→Bool
 | a::x::r,bs=>sameAt (sameL x) a bs&&sameM r bs
 | _,_=>true
end
inductive Sims:List V→List V→Prop where
 | nil:Sims [] []
 | leaf {k k':Int} {n:Nat} {t:List UInt8} {o o':Int} {vs us:List V} (hk:k<21) (hk':k'=k∨k=20∧k'=19) (h0:k=20→n=0) (hs:Sims vs us):Sims (.mk k n t [] o []::vs) (.mk k' n t [] o' []::us)
 | list {o o':Int} {ks ls vs us:List V} (hk:Sims ks ls) (hs:Sims vs us):Sims (.mk 21 0 [] ks o []::vs) (.mk 21 0 [] ls o' []::us)
 | map {o o':Int} {ps qs:List (V×V)} {ls vs us:List V} (hp:ps.Perm qs) (h1:∀q∈ps,q.1.kind<21) (hk:Sims (flat2 qs) ls) (hs:Sims vs us):Sims (.mk 22 0 [] (flat2 ps) o []::vs) (.mk 22 0 [] ls o' []::us)
 | arr {k o o':Int} {ks ls vs us:List V} (hk:k<20) (h1:∀v∈ks,v.kind=k) (hsk:Sims ks ls) (hs:Sims vs us):Sims (.mk 23 0 [] ks o []::vs) (.mk 23 0 [] ls o' []::us)
theorem usualVs_map(l:List V):usualVs l=l.map usualV:=by
 induction l with
 | nil=>rfl
 | cons a r ih=>simp [usualVs,ih]
theorem Sims.len{l m:List V}(h:Sims l m):l.length=m.length:=by
 induction h<;>simp_all
theorem sameV_leaf(k:Int)(n:Nat)(t:List UInt8)(o o':Int):sameV (.mk k n t [] o []) (.mk k n t [] o' [])=true:=by
 simp [sameV,sameVs,sameD]
theorem usual_leaf{k:Int}(n:Nat)(t:List UInt8)(o:Int)(hk:k<21):usualV (.mk k n t [] o [])=if k=20 then .mk 19 0 t [] 0 []else .mk k n t [] o []:=by
 have h1:¬k=21:=by omega
 simp [usualV,usualVs,h1]
theorem usual_list(ks:List V)(o:Int):usualV (.mk 21 0 [] ks o [])=.mk 21 0 [] (usualVs ks) o []:=by
 simp [usualV]
theorem usual_map(ks:List V)(o:Int):usualV (.mk 22 0 [] ks o [])=.mk 22 0 [] (usualVs ks) o []:=by
 simp [usualV]
theorem usual_arr(ks:List V)(o:Int)(h:∀v∈ks,v.kind<20):usualV (.mk 23 0 [] ks o [])=.mk 23 0 [] (usualVs ks) o []:=by
 match ks with
 | []=>simp [usualV,usualVs]
 | [.mk k' n' t' ks' o' ds']=>
   have h1:k'<20:=h _ (List.mem_singleton.2 rfl)
   have h2:¬k'=20:=by omega
   simp [usualV,h2]
 | a::b::r=>simp [usualV]
theorem Sims.arr_same{l m:List V}(h:Sims l m)(hl:∀v∈l,v.kind<20):sameVs (usualVs l) (usualVs m)=true:=by
 induction h with
 | nil=>rfl
 | leaf hk hk' h0 hs ih=>
   rename_i k k' n t o o' vs us
   have h1:k<20:=hl (.mk k n t [] o []) (List.mem_cons_self ..)
   have h2:¬k=20:=by omega
   obtain rfl:k'=k:=by omega
   have:=ih fun v hv=>hl v (List.mem_cons_of_mem _ hv)
   simp only [usualVs,sameVs,if_neg h2,usual_leaf _ _ _ hk,sameV_leaf,Bool.true_and]
   exact this
 | list hk hs _ _=>exact absurd (hl _ (List.mem_cons_self ..)) (by simp [V.kind])
 | map hp h1 hk hs _ _=>exact absurd (hl _ (List.mem_cons_self ..)) (by simp [V.kind])
 | arr hk h1 hsk hs _ _=>exact absurd (hl _ (List.mem_cons_self ..)) (by simp [V.kind])
theorem usual_flat2(ps:List (V×V)):usualVs (flat2 ps)=flat2 (ps.map fun q=>(usualV q.1,usualV q.2)):=by
 induction ps with
 | nil=>rfl
 | cons q ps ih=>simp [flat2,usualVs,ih]
theorem sameM_all(ps:List (V×V))(bs:List V)(h:∀q∈ps,sameAt (sameL q.2) q.1 bs=true):sameM (flat2 ps) bs=true:=by
 induction ps with
 | nil=>rfl
 | cons q ps ih=>
   simp only [flat2,sameM,h q (List.mem_cons_self ..),Bool.true_and]
   exact ih fun q' hq'=>h q' (List.mem_cons_of_mem _ hq')
theorem sameL_leaf{a b:V}(h1:a.kind≠21)(h2:a.kind≠22):sameL a b=sameV a b:=by
 cases a with
 | mk k n t ks o ds=>
   have h1:¬k=21:=h1
   have h2:¬k=22:=h2
   simp [sameL,h1,h2]
theorem usual_kind_lt{a:V}(h:a.kind<21):(usualV a).kind≠21∧(usualV a).kind≠22:=by
 cases a with
 | mk k n t ks o ds=>
   have h:k<21:=h
   have h1:¬k=21:=by omega
   have h2:(k==23)=false:=by simp;omega
   have h3:¬k=22:=by omega
   simp only [usualV,h2]
   split
   ·exact⟨(by show ¬(19:Int)=21;omega),(by show ¬(19:Int)=22;omega)⟩
   ·split<;>exact⟨h1,h3⟩
theorem sameAt_of:∀{qs:List (V×V)} {ls:List V},(flat2 qs).length=ls.length→sameLs (usualVs (flat2 qs)) (usualVs ls)=true→∀q∈qs,q.1.kind<21→sameAt (sameL (usualV q.2)) (usualV q.1) (usualVs ls)=true
 | [],_,_,_,q,hq,_=>by simp at hq
 | p::qs,[],hl,_,_,_,_=>by simp [flat2]at hl
 | p::qs,[x],hl,_,_,_,_=>by simp [flat2]at hl
 | p::qs,x::y::ls,hl,hs,q,hq,hk=>by
   simp only [flat2,usualVs,sameLs,Bool.and_eq_true]at hs
   obtain⟨h1,h2,h3⟩:=hs
   simp only [usualVs,sameAt,Bool.or_eq_true,Bool.and_eq_true]
   rcases List.mem_cons.1 hq with rfl | hq
   ·obtain⟨e1,e2⟩:=usual_kind_lt hk
    exact .inl ⟨(sameL_leaf e1 e2).symm.trans h1,h2⟩
   ·exact .inr (sameAt_of (by simpa [flat2]using hl) h3 q hq hk)
theorem Sims.same{l m:List V}(h:Sims l m):sameLs (usualVs l) (usualVs m)=true:=by
 induction h with
 | nil=>rfl
 | leaf hk hk' h0 hs ih=>
   rename_i k k' n t o o' vs us
   simp only [usualVs,sameLs,ih,Bool.and_true]
   rw [usual_leaf _ _ _ hk]
   by_cases h2:k=20
   ·subst h2
    obtain rfl:=h0 rfl
    rcases hk' with rfl | ⟨_,rfl⟩
    ·rw [usual_leaf _ _ _ (by omega)]
     simp [sameL,sameV,sameVs,sameD]
    ·rw [usual_leaf _ _ _ (by omega)]
     simp [sameL,sameV,sameVs,sameD]
   ·have h3:¬k=21:=by omega
    obtain rfl:k'=k:=by omega
    simp only [if_neg h2,usual_leaf n t o' hk]
    by_cases h4:k'=22
    ·omega
    ·simp [sameL,h3,h4,sameV,sameVs,sameD]
 | list hk hs ih1 ih2=>
   have:=hk.len
   simp only [usualVs,sameLs,ih2,Bool.and_true,usual_list]
   simp [sameL,V.kids,V.desc,V.kind,usualVs_map,this]
   simpa [usualVs_map]using ih1
 | map hp h1 hk hs ih1 ih2=>
   rename_i o o' ps qs ls vs us
   have e:=hk.len
   have e':(flat2 ps).length=ls.length:=by
    have h2:∀l:List (V×V),(flat2 l).length=2*l.length:=by
     intro l
     induction l with
     | nil=>rfl
     | cons q l ih=>simp [flat2,ih];omega
    rw [h2]at e ⊢
    rw [hp.length_eq,e]
   simp only [usualVs,sameLs,ih2,Bool.and_true,usual_map]
   have hm:sameM (usualVs (flat2 ps)) (usualVs ls)=true:=by
    rw [usual_flat2]
    refine sameM_all _ _ fun q hq=>?_
    obtain⟨q0,hq0,rfl⟩:=List.mem_map.1 hq
    exact sameAt_of e ih1 q0 (hp.mem_iff.1 hq0) (h1 q0 hq0)
   have e1:(usualVs (flat2 ps)).length=(usualVs ls).length:=by simp [usualVs_map,e']
   simp only [sameL]
   simp [V.kids,V.desc,V.kind,e1,hm]
 | arr hk h1 hsk hs ih1 ih2=>
   rename_i k o o' ks ls vs us
   have h20:∀v∈ks,v.kind<20:=fun v hv=>by rw [h1 v hv];exact hk
   have h20':∀v∈ls,v.kind<20:=by
    clear ih1 ih2 h1
    induction hsk with
    | nil=>intro v hv;simp at hv
    | leaf hk' hk2 h0 hs' ih=>
      have h3:=h20 _ (List.mem_cons_self ..)
      simp only [V.kind]at h3
      intro v hv
      rcases List.mem_cons.1 hv with rfl | hv
      ·simp only [V.kind];omega
      ·exact ih (fun v hv=>h20 v (List.mem_cons_of_mem _ hv)) v hv
    | list _ _ _ _=>exact absurd (h20 _ (List.mem_cons_self ..)) (by simp [V.kind])
    | map _ _ _ _ _ _=>exact absurd (h20 _ (List.mem_cons_self ..)) (by simp [V.kind])
    | arr _ _ _ _ _ _=>exact absurd (h20 _ (List.mem_cons_self ..)) (by simp [V.kind])
   simp only [usualVs,sameLs,ih2,Bool.and_true]
   rw [usual_arr ks o h20,usual_arr ls o' h20']
   have:=hsk.len
   simp [sameL,sameV,sameD,usualVs_map,this]
   simpa [usualVs_map]using hsk.arr_same h20
theorem flat2_of_even:∀(l:List V),l.length % 2=0→∃ps,l=flat2 ps
 | [],_=>⟨[],rfl⟩
 | [_],h=>absurd h (by simp)
 | a::b::r,h=>by
   obtain⟨ps,rfl⟩:=flat2_of_even r (by simp at h;omega)
   exact⟨(a,b)::ps,rfl⟩
structure FitC(k:Int)(n:Nat)(t:List UInt8)(ks ds:List V):Prop where
 lo:0≤k
 hi:k<24
 noKids:k<21→ks=[]
 noText:¬(17≤k∧k≤20∨k=14)→t=[]
 noNum:¬(1≤k∧k≤16∧k≠14)→n=0
 few:ks.length≤1000
 short:t.length≤131072
 num:n<18446744073709551616
 b:k=1→n≤1
 u8:k=2→n<256
 u16:k=3→n<65536
 u32:k=4∨k=10→n<4294967296
 i8:k=6→Fits 8 n
 i16:k=7→Fits 16 n
 i32:k=8→Fits 32 n
 uuid:k=17→t.length=16
 even:k=22→ks.length % 2=0
 arr:k=23→∀v∈ks,∀u∈ks,v.kind=u.kind∧v.desc.length=u.desc.length
 d1:ds.length≤1
 txt:k=19∨k=20→Lib.validD t=true
inductive FitL:List V→Prop where
 | nil:FitL []
 | cons {k:Int} {n:Nat} {t:List UInt8} {ks ds vs:List V} {o:Int} (h:FitC k n t ks ds) (hk:FitL ks) (hd:FitL ds) (hs:FitL vs):FitL (.mk k n t ks o ds::vs)
inductive SayL:List V→Prop where
 | nil:SayL []
 | cons {k:Int} {n:Nat} {t:List UInt8} {ks vs:List V} {o:Int} (h1:¬(12≤k∧k≤15)) (h2:k≠23→SayL ks)
  (h3:k=23→ks≠[]∧(∀v,ks.head? =some v→(1≤v.kind∧v.kind≤11∨16≤v.kind∧v.kind≤20)∧v.desc=[])∧∀v∈ks,18≤v.kind→v.kind≤20→v.text≠[])
  (h4:k=22→∀ps,ks=flat2 ps→MapOk ps) (hs:SayL vs):SayL (.mk k n t ks o []::vs)
inductive LeafOk:V→Prop where
 | null (o:Int):LeafOk (.mk 0 0 [] [] o [])
 | bool (n:Nat) (o:Int) (h:n≤1):LeafOk (.mk 1 n [] [] o [])
 | u8 (n:Nat) (o:Int) (h:n<256):LeafOk (.mk 2 n [] [] o [])
 | u16 (n:Nat) (o:Int) (h:n<65536):LeafOk (.mk 3 n [] [] o [])
 | u32 (n:Nat) (o:Int) (h:n<4294967296):LeafOk (.mk 4 n [] [] o [])
 | u64 (n:Nat) (o:Int) (h:n<18446744073709551616):LeafOk (.mk 5 n [] [] o [])
 | i8 (n:Nat) (o:Int) (h:Fits 8 n):LeafOk (.mk 6 n [] [] o [])
 | i16 (n:Nat) (o:Int) (h:Fits 16 n):LeafOk (.mk 7 n [] [] o [])
 | i32 (n:Nat) (o:Int) (h:Fits 32 n):LeafOk (.mk 8 n [] [] o [])
 | i64 (n:Nat) (o:Int) (h:Fits 64 n):LeafOk (.mk 9 n [] [] o [])
 | f32 (n:Nat) (o:Int) (h:n<4294967296):LeafOk (.mk 10 n [] [] o [])
 | f64 (n:Nat) (o:Int) (h:n<18446744073709551616):LeafOk (.mk 11 n [] [] o [])
 | time (n:Nat) (o:Int) (h:Fits 64 n):LeafOk (.mk 16 n [] [] o [])
 | uuid (t:List UInt8) (o:Int) (h:t.length=16):LeafOk (.mk 17 0 t [] o [])
 | bin (t:List UInt8) (o:Int) (h:t.length≤131072):LeafOk (.mk 18 0 t [] o [])
 | str (t:List UInt8) (o:Int) (h:t.length≤131072) (hv:Lib.validD t=true):LeafOk (.mk 19 0 t [] o [])
 | sym (t:List UInt8) (o:Int) (h:t.length≤131072) (hv:Lib.validD t=true):LeafOk (.mk 20 0 t [] o [])
structure ArrOk(k:Int)(ks:List V):Prop where
 kind:1≤k∧k≤11∨16≤k∧k≤20
 all:∀v∈ks,v.kind=k∧LeafOk v∧(18≤k→v.text≠[])
inductive AbleL:List V→Prop where
 | nil:AbleL []
 | leaf {v:V} {vs:List V} (h:LeafOk v) (hs:AbleL vs):AbleL (v::vs)
 | list {o:Int} {ks vs:List V} (hk:AbleL ks) (hm:ks.length≤1000) (hs:AbleL vs):AbleL (.mk 21 0 [] ks o []::vs)
 | map {o:Int} {ps:List (V×V)} {vs:List V} (hk:AbleL (flat2 ps)) (hm:2*ps.length≤1000) (ok:MapOk ps) (hs:AbleL vs):AbleL (.mk 22 0 [] (flat2 ps) o []::vs)
 | arr {o k:Int} {ks vs:List V} (hk:ArrOk k ks) (hm:ks.length≤1000) (hne:ks≠[]) (hs:AbleL vs):AbleL (.mk 23 0 [] ks o []::vs)
theorem fits64{n:Nat}(h:n<18446744073709551616):Fits 64 n:=by
 refine⟨h,?_,?_⟩<;>(unfold sgn wrap64;omega)
theorem FitC.leaf{k:Int}{n:Nat}{t:List UInt8}{ks:List V}{o:Int}(h:FitC k n t ks [])(hk:k<21)(h1:¬(12≤k∧k≤15)):LeafOk (.mk k n t ks o []):=by
 obtain rfl:=h.noKids hk
 have h0:=h.lo
 have hc:k=0∨k=1∨k=2∨k=3∨k=4∨k=5∨k=6∨k=7∨k=8∨k=9∨k=10∨k=11∨k=16∨k=17∨k=18∨k=19∨k=20:=by omega
 have hn:=h.num
 have hs:=h.short
 rcases hc with rfl | rfl | rfl | rfl | rfl | rfl | rfl | rfl | rfl | rfl | rfl | rfl | rfl | rfl | rfl | rfl | rfl
 ·obtain rfl:=h.noText (by omega)
  obtain rfl:=h.noNum (by omega)
  exact .null o
 ·obtain rfl:=h.noText (by omega)
  exact .bool n o (h.b rfl)
 ·obtain rfl:=h.noText (by omega)
  exact .u8 n o (h.u8 rfl)
 ·obtain rfl:=h.noText (by omega)
  exact .u16 n o (h.u16 rfl)
 ·obtain rfl:=h.noText (by omega)
  exact .u32 n o (h.u32 (.inl rfl))
 ·obtain rfl:=h.noText (by omega)
  exact .u64 n o hn
 ·obtain rfl:=h.noText (by omega)
  exact .i8 n o (h.i8 rfl)
 ·obtain rfl:=h.noText (by omega)
  exact .i16 n o (h.i16 rfl)
 ·obtain rfl:=h.noText (by omega)
  exact .i32 n o (h.i32 rfl)
 ·obtain rfl:=h.noText (by omega)
  exact .i64 n o (fits64 hn)
 ·obtain rfl:=h.noText (by omega)
  exact .f32 n o (h.u32 (.inr rfl))
 ·obtain rfl:=h.noText (by omega)
  exact .f64 n o hn
 ·obtain rfl:=h.noText (by omega)
  exact .time n o (fits64 hn)
 ·obtain rfl:=h.noNum (by omega)
  exact .uuid t o (h.uuid rfl)
 ·obtain rfl:=h.noNum (by omega)
  exact .bin t o hs
 ·obtain rfl:=h.noNum (by omega)
  exact .str t o hs (h.txt (.inl rfl))
 ·obtain rfl:=h.noNum (by omega)
  exact .sym t o hs (h.txt (.inr rfl))
theorem FitL.mem{l:List V}(h:FitL l):∀v∈l,FitC v.kind v.num v.text v.kids v.desc:=by
 induction h with
 | nil=>intro v hv;simp at hv
 | cons h hk hd hs _ _ ih=>
   intro v hv
   rcases List.mem_cons.1 hv with rfl | hv
   ·exact h
   ·exact ih v hv
theorem able_of{l:List V}(h:FitL l):SayL l→AbleL l:=by
 induction h with
 | nil=>intro _;exact .nil
 | cons h hk hd hs ih1 _ ih2=>
   rename_i k n t ks ds vs o _
   intro s
   cases s with
   | cons h1 h2 h3 h4 hs'=>
     have hc:k<21∨k=21∨k=22∨k=23:=by have:=h.hi;omega
     rcases hc with hc | rfl | rfl | rfl
     ·exact .leaf (h.leaf hc h1) (ih2 hs')
     ·obtain rfl:=h.noText (by omega)
      obtain rfl:=h.noNum (by omega)
      exact .list (ih1 (h2 (by omega))) h.few (ih2 hs')
     ·obtain rfl:=h.noText (by omega)
      obtain rfl:=h.noNum (by omega)
      obtain⟨ps,rfl⟩:=flat2_of_even ks (h.even rfl)
      exact .map (ih1 (h2 (by omega))) (by have:=h.few;rwa [flat2_len]at this) (h4 rfl ps rfl) (ih2 hs')
     ·obtain rfl:=h.noText (by omega)
      obtain rfl:=h.noNum (by omega)
      obtain⟨hne,hh,hx⟩:=h3 rfl
      match ks,hne,hh,hx,hk,h with
      | a::r,hne,hh,hx,hk,h=>
        obtain⟨ha,hb⟩:=hh a rfl
        refine .arr (k:=a.kind) ⟨ha,fun v hv=>?_⟩ h.few hne (ih2 hs')
        obtain⟨e1,e2⟩:=h.arr rfl v hv a (List.mem_cons_self ..)
        rw [hb]at e2
        have e3:v.desc=[]:=List.eq_nil_of_length_eq_zero e2
        have hf:=hk.mem v hv
        rw [e3]at hf
        refine⟨e1,?_,fun h18=>hx v hv (by omega) (by omega)⟩
        have:=hf.leaf (o:=v.of) (by omega) (by omega)
        cases v with
        | mk k' n' t' ks' o' ds'=>
          obtain rfl:ds'=[]:=e3
          exact this
def lng(c8 c32:UInt8)(t:List UInt8):List (UInt8×List UInt8):=
 (if t.length≤255 then [(c8,beB 1 t.length++t)]else [])++[(c32,beB 4 t.length++t)]
def pcs:V→List (UInt8×List UInt8)
 | .mk k n t _ _ _=>
   if k=0 then [(64,[])]
   else if k=1 then [(UInt8.ofNat (66-n),[]),(86,beB 1 n)]
   else if k=2 then [(80,beB 1 n)]
   else if k=3 then [(96,beB 2 n)]
   else if k=4 then(if n=0 then [(67,[])]else [])++((if n<256 then [(82,beB 1 n)]else [])++[(112,beB 4 n)])
   else if k=5 then(if n=0 then [(68,[])]else [])++((if n<256 then [(83,beB 1 n)]else [])++[(128,beB 8 n)])
   else if k=6 then [(81,beB 1 n)]
   else if k=7 then [(97,beB 2 n)]
   else if k=8 then(if -128≤sgn n∧sgn n<128 then [(84,beB 1 n)]else [])++[(113,beB 4 n)]
   else if k=9 then(if -128≤sgn n∧sgn n<128 then [(85,beB 1 n)]else [])++[(129,beB 8 n)]
   else if k=10 then [(114,beB 4 n)]
   else if k=11 then [(130,beB 8 n)]
   else if k=16 then [(131,beB 8 n)]
   else if k=17 then [(152,t)]
   else if k=18 then lng 160 176 t
   else if k=19 then lng 161 177 t
   else if k=20 then lng 163 179 t
   else []
theorem lng_leaf{c8 c32:UInt8}{t:List UInt8}(P:UInt8→List UInt8→Prop)(h8:t.length<256→P c8 (beB 1 t.length++t))(h32:P c32 (beB 4 t.length++t)):∀p∈lng c8 c32 t,P p.1 p.2:=by
 intro p hp
 unfold lng at hp
 split at hp
 ·simp only [List.singleton_append,List.mem_cons,List.mem_nil_iff,or_false]at hp
  rcases hp with rfl | rfl
  ·exact h8 (by omega)
  ·exact h32
 ·simp only [List.nil_append,List.mem_cons,List.mem_nil_iff,or_false]at hp
  subst hp
  exact h32
theorem pcs_leaf{v:V}(h:LeafOk v):∀p∈pcs v,Leaf v (p.1::p.2):=by
 cases h with
 | null o=>intro p hp;simp [pcs]at hp;subst hp;exact .null o
 | bool n o h=>
   intro p hp;simp [pcs]at hp
   rcases hp with rfl | rfl
   ·rcases Nat.lt_or_ge 0 n with h1 | h1
    ·obtain rfl:n=1:=by omega
     exact .b1 o
    ·obtain rfl:n=0:=by omega
     exact .b0 o
   ·exact .bb n o h
 | u8 n o h=>intro p hp;simp [pcs]at hp;subst hp;exact .u8 n o h
 | u16 n o h=>intro p hp;simp [pcs]at hp;subst hp;exact .u16 n o h
 | u32 n o h=>
   intro p hp
   simp only [pcs,show ¬((4:Int)=0) by omega,show ¬((4:Int)=1) by omega,show ¬((4:Int)=2) by omega,show ¬((4:Int)=3) by omega,if_true,if_false,List.mem_append]at hp
   rcases hp with hp | hp | hp
   ·split at hp
    ·rename_i e;subst e;simp at hp;subst hp;exact .u32z o
    ·simp at hp
   ·split at hp
    ·simp at hp;subst hp;exact .u32s n o (by assumption)
    ·simp at hp
   ·simp at hp;subst hp;exact .u32 n o h
 | u64 n o h=>
   intro p hp
   simp only [pcs,show ¬((5:Int)=0) by omega,show ¬((5:Int)=1) by omega,show ¬((5:Int)=2) by omega,show ¬((5:Int)=3) by omega,show ¬((5:Int)=4) by omega,if_true,if_false,List.mem_append]at hp
   rcases hp with hp | hp | hp
   ·split at hp
    ·rename_i e;subst e;simp at hp;subst hp;exact .u64z o
    ·simp at hp
   ·split at hp
    ·simp at hp;subst hp;exact .u64s n o (by assumption)
    ·simp at hp
   ·simp at hp;subst hp;exact .u64 n o h
 | i8 n o h=>intro p hp;simp [pcs]at hp;subst hp;exact .i8 n o h
 | i16 n o h=>intro p hp;simp [pcs]at hp;subst hp;exact .i16 n o h
 | i32 n o h=>
   intro p hp
   simp [pcs]at hp
   rcases hp with⟨hc,rfl⟩ | rfl
   ·exact .i32s n o ⟨h.1,by have:=hc.1;simpa using this,by have:=hc.2;simpa using this⟩
   ·exact .i32 n o h
 | i64 n o h=>
   intro p hp
   simp [pcs]at hp
   rcases hp with⟨hc,rfl⟩ | rfl
   ·exact .i64s n o ⟨h.1,by have:=hc.1;simpa using this,by have:=hc.2;simpa using this⟩
   ·exact .i64 n o h
 | f32 n o h=>intro p hp;simp [pcs]at hp;subst hp;exact .f32 n o h
 | f64 n o h=>intro p hp;simp [pcs]at hp;subst hp;exact .f64 n o h
 | time n o h=>intro p hp;simp [pcs]at hp;subst hp;exact .time n o h
 | uuid t o h=>intro p hp;simp [pcs]at hp;subst hp;exact .uuid t o h
 | bin t o h=>exact lng_leaf (fun c d=>Leaf _ (c::d)) (fun h8=>.bin8 t o h8) (.bin32 t o (by omega))
 | str t o h hv=>exact lng_leaf (fun c d=>Leaf _ (c::d)) (fun h8=>.str8 t o h8) (.str32 t o (by omega))
 | sym t o h hv=>exact lng_leaf (fun c d=>Leaf _ (c::d)) (fun h8=>.sym8 t o h8) (.sym32 t o (by omega))
theorem lng_len(c8 c32:UInt8)(t:List UInt8):1≤(lng c8 c32 t).length∧(lng c8 c32 t).length≤3:=by
 unfold lng
 split<;>simp
theorem pcs_len{v:V}(h:LeafOk v):1≤(pcs v).length∧(pcs v).length≤3:=by
 have two:∀(c:Prop) [Decidable c] (a b:UInt8×List UInt8),1≤((if c then [a]else [])++[b]).length∧((if c then [a]else [])++[b]).length≤3:=by
  intro c _ a b
  split<;>simp
 have three:∀(c e:Prop) [Decidable c] [Decidable e] (a b x:UInt8×List UInt8),1≤((if c then [a]else [])++((if e then [b]else [])++[x])).length∧((if c then [a]else [])++((if e then [b]else [])++[x])).length≤3:=by
  intro c e _ _ a b x
  split<;>split<;>simp
 cases h with
 | u32 n o h=>exact three _ _ _ _ _
 | u64 n o h=>exact three _ _ _ _ _
 | i32 n o h=>exact two _ _ _
 | i64 n o h=>exact two _ _ _
 | bin t o h=>exact lng_len _ _ _
 | str t o h hv=>exact lng_len _ _ _
 | sym t o h hv=>exact lng_len _ _ _
 | bool n o h=>exact⟨Nat.le_succ _,Nat.le_succ _⟩
 | _=>exact⟨Nat.le_refl _,by show 1≤3;omega⟩
def longC(k:Int):UInt8:=
 if k=0 then 64 else if k=1 then 86 else if k=2 then 80 else if k=3 then 96 else if k=4 then 112 else if k=5 then 128 else if k=6 then 81 else if k=7 then 97 else if k=8 then 113 else if k=9 then 129
 else if k=10 then 114 else if k=11 then 130 else if k=16 then 131 else if k=17 then 152 else if k=18 then 176 else if k=19 then 177 else if k=20 then 179 else 0
def shortC(k:Int):UInt8:=
 if k=4 then 82 else if k=5 then 83 else if k=8 then 84 else if k=9 then 85 else if k=18 then 160 else if k=19 then 161 else if k=20 then 163 else 0
def pick1(code:UInt8)(l:List (UInt8×List UInt8)):Option (List UInt8):=(l.find? fun p=>p.1==code).map (·.2)
def elems(code:UInt8):List V→Option (List UInt8)
 | []=>some []
 | v::r=>match pick1 code (pcs v),elems code r with
   | some d,some e=>some (d++e)
   | _,_=>none
theorem num_inv{k:Int}{code:UInt8}{s:Nat}{ok:Nat→Prop}(hT:NumT k code s ok){v:V}{d:List UInt8}(h:Leaf v (code::d))(hk:v.kind=k):d=beB s v.num∧ok v.num∧v.text=[]:=by
 obtain⟨b,hb⟩:∃b,b=code::d:=⟨_,rfl⟩
 rw [←hb]at h
 cases h<;>cases hT<;>simp [V.kind]at hk
 all_goals first | (simp at hb;done) | skip
 all_goals (simp at hb)
 all_goals (subst hb;exact⟨rfl,(by assumption),rfl⟩)
theorem text_inv{k:Int}{code:UInt8}{s:Nat}(hT:TextT k code s){v:V}{d:List UInt8}(h:Leaf v (code::d))(hk:v.kind=k):v.num=0∧∃q,d=q++v.text∧q.length=s∧Lib.beNat q=v.text.length:=by
 obtain⟨b,hb⟩:∃b,b=code::d:=⟨_,rfl⟩
 rw [←hb]at h
 cases h<;>cases hT<;>simp [V.kind]at hk
 all_goals first | (simp at hb;done) | skip
 all_goals (simp at hb)
 all_goals (subst hb;exact⟨rfl,_,rfl,beB_len _ _,beNat_beB _ _ (by omega)⟩)
theorem uuid_inv{v:V}{d:List UInt8}(h:Leaf v (152::d))(hk:v.kind=17):v.num=0∧v.text.length=16∧d=v.text:=by
 obtain⟨b,hb⟩:∃b,b=152::d:=⟨_,rfl⟩
 rw [←hb]at h
 cases h<;>simp [V.kind]at hk
 simp at hb
 subst hb
 exact⟨rfl,by assumption,rfl⟩
theorem pick1_mem{code:UInt8}{l:List (UInt8×List UInt8)}{d:List UInt8}(h:pick1 code l=some d):(code,d)∈l:=by
 unfold pick1 at h
 cases hf:l.find? fun p=>p.1==code with
 | none=>rw [hf]at h;simp at h
 | some p=>
   rw [hf]at h
   have h1:=List.mem_of_find?_eq_some hf
   have h2:=List.find?_some hf
   simp at h h2
   subst h;subst h2
   exact h1
theorem LeafOk.plain{v:V}(h:LeafOk v):v=.mk v.kind v.num v.text [] v.of []:=by cases h<;>rfl
theorem elems_inv{code:UInt8}{v:V}{r:List V}{d:List UInt8}(h:elems code (v::r)=some d):∃a b,pick1 code (pcs v)=some a∧elems code r=some b∧d=a++b:=by
 unfold elems at h
 split at h
 ·rename_i a b h1 h2
  exact⟨a,b,h1,h2,by simpa using h.symm⟩
 ·simp at h
theorem elems_num{k:Int}{code:UInt8}{s:Nat}{ok:Nat→Prop}(hT:NumT k code s ok):∀{ks:List V} {d:List UInt8},(∀v∈ks,v.kind=k∧LeafOk v)→elems code ks=some d→d=(ks.map fun v=>beB s v.num).flatten∧∀v∈ks,ok v.num∧v.text=[]
 | [],d,_,h=>by simp [elems]at h;subst h;exact⟨rfl,by simp⟩
 | v::r,d,ha,h=>by
   obtain⟨a,b,h1,h2,rfl⟩:=elems_inv h
   obtain⟨e1,e2⟩:=ha v (List.mem_cons_self ..)
   obtain⟨rfl,e3,e4⟩:=num_inv hT (pcs_leaf e2 _ (pick1_mem h1)) e1
   obtain⟨rfl,e5⟩:=elems_num hT (fun u hu=>ha u (List.mem_cons_of_mem _ hu)) h2
   exact⟨by simp,fun u hu=>(List.mem_cons.1 hu).elim (fun e=>by subst e;exact⟨e3,e4⟩) (e5 u)⟩
theorem elems_text{k:Int}{code:UInt8}{s:Nat}(hT:TextT k code s):∀{ks:List V} {d:List UInt8},(∀v∈ks,v.kind=k∧LeafOk v)→elems code ks=some d→Lens s (ks.map V.text) d∧∀v∈ks,v.num=0
 | [],d,_,h=>by simp [elems]at h;subst h;exact⟨.nil,by simp⟩
 | v::r,d,ha,h=>by
   obtain⟨a,b,h1,h2,rfl⟩:=elems_inv h
   obtain⟨e1,e2⟩:=ha v (List.mem_cons_self ..)
   obtain⟨e3,q,rfl,e4,e5⟩:=text_inv hT (pcs_leaf e2 _ (pick1_mem h1)) e1
   obtain⟨e6,e7⟩:=elems_text hT (fun u hu=>ha u (List.mem_cons_of_mem _ hu)) h2
   refine⟨?_,fun u hu=>(List.mem_cons.1 hu).elim (fun e=>by subst e;exact e3) (e7 u)⟩
   rw [List.append_assoc]
   exact .cons e4 e5 e6
theorem elems_uuid:∀{ks:List V} {d:List UInt8},(∀v∈ks,v.kind=17∧LeafOk v)→elems 152 ks=some d→d=(ks.map V.text).flatten∧∀v∈ks,v.num=0∧v.text.length=16
 | [],d,_,h=>by simp [elems]at h;subst h;exact⟨rfl,by simp⟩
 | v::r,d,ha,h=>by
   obtain⟨a,b,h1,h2,rfl⟩:=elems_inv h
   obtain⟨e1,e2⟩:=ha v (List.mem_cons_self ..)
   obtain⟨e3,e4,rfl⟩:=uuid_inv (pcs_leaf e2 _ (pick1_mem h1)) e1
   obtain⟨rfl,e5⟩:=elems_uuid (fun u hu=>ha u (List.mem_cons_of_mem _ hu)) h2
   exact⟨by simp,fun u hu=>(List.mem_cons.1 hu).elim (fun e=>by subst e;exact⟨e3,e4⟩) (e5 u)⟩
theorem elems_enc{k:Int}{ks:List V}(h:ArrOk k ks)(code:UInt8)(hc:code=longC k∨code=shortC k∧code≠0){d:List UInt8}(hd:elems code ks=some d):EncA ks code d:=by
 have hp:Plain k ks:=fun v hv=>by
  obtain⟨e1,e2,_⟩:=h.all v hv
  exact⟨v.num,v.text,v.of,by rw [←e1];exact e2.plain⟩
 have ha:∀v∈ks,v.kind=k∧LeafOk v:=fun v hv=>⟨(h.all v hv).1,(h.all v hv).2.1⟩
 have N:∀{s:Nat} {ok:Nat→Prop},NumT k code s ok→EncA ks code d:=fun hT=>by
  obtain⟨rfl,e⟩:=elems_num hT ha hd
  exact .num hT hp e
 have T:∀{s:Nat},18≤k→TextT k code s→EncA ks code d:=fun h18 hT=>by
  obtain⟨e1,e2⟩:=elems_text hT ha hd
  exact .text hT hp (fun v hv=>⟨e2 v hv,(h.all v hv).2.2 h18⟩) e1
 have hk:=h.kind
 have hcs:k=1∨k=2∨k=3∨k=4∨k=5∨k=6∨k=7∨k=8∨k=9∨k=10∨k=11∨k=16∨k=17∨k=18∨k=19∨k=20:=by omega
 rcases hcs with rfl | rfl | rfl | rfl | rfl | rfl | rfl | rfl | rfl | rfl | rfl | rfl | rfl | rfl | rfl | rfl
 all_goals rcases hc with rfl | ⟨rfl,h0⟩
 all_goals first
  | exact absurd rfl h0
  | exact N .bool | exact N .u8 | exact N .u16 | exact N .u32 | exact N .u32s | exact N .u64 | exact N .u64s | exact N .i8 | exact N .i16 | exact N .i32 | exact N .i32s | exact N .i64 | exact N .i64s | exact N .f32 | exact N .f64 | exact N .time
  | exact T (by omega) .bin32 | exact T (by omega) .bin8 | exact T (by omega) .str32 | exact T (by omega) .str8 | exact T (by omega) .sym32 | exact T (by omega) .sym8
  | skip
 obtain⟨rfl,e⟩:=elems_uuid ha hd
 exact .uuid hp e
theorem pick1_long{v:V}(h:LeafOk v)(hk:1≤v.kind):∃d,pick1 (longC v.kind) (pcs v)=some d:=by
 have two:∀(c:Prop) [Decidable c] (x y:UInt8) (a b:List UInt8),∃d,pick1 y ((if c then [(x,a)]else [])++[(y,b)])=some d:=by
  intro c _ x y a b
  by_cases hc:c<;>by_cases hxy:x=y<;>simp [pick1,hc,hxy]
 have three:∀(c e:Prop) [Decidable c] [Decidable e] (x y z:UInt8) (a b f:List UInt8),∃d,pick1 z ((if c then [(x,a)]else [])++((if e then [(y,b)]else [])++[(z,f)]))=some d:=by
  intro c e _ _ x y z a b f
  by_cases hc:c<;>by_cases he:e<;>by_cases h1:x=z<;>by_cases h2:y=z<;>simp [pick1,hc,he,h1,h2]
 cases h with
 | null o=>simp [V.kind]at hk
 | u32 n o h=>exact three _ _ _ _ _ _ _ _
 | u64 n o h=>exact three _ _ _ _ _ _ _ _
 | i32 n o h=>exact two _ _ _ _ _
 | i64 n o h=>exact two _ _ _ _ _
 | bin t o h=>exact two _ _ _ _ _
 | str t o h hv=>exact two _ _ _ _ _
 | sym t o h hv=>exact two _ _ _ _ _
 | bool n o h=>
   rcases Nat.lt_or_ge 0 n with h1 | h1
   ·obtain rfl:n=1:=by omega
    exact⟨_,rfl⟩
   ·obtain rfl:n=0:=by omega
    exact⟨_,rfl⟩
 | _=>exact⟨_,rfl⟩
theorem elems_long{k:Int}(hk:1≤k):∀{ks:List V},(∀v∈ks,v.kind=k∧LeafOk v)→∃d,elems (longC k) ks=some d
 | [],_=>⟨[],rfl⟩
 | v::r,h=>by
   obtain⟨rfl,e⟩:=h v (List.mem_cons_self ..)
   obtain⟨a,ha⟩:=pick1_long e hk
   obtain⟨b,hb⟩:=elems_long hk fun u hu=>h u (List.mem_cons_of_mem _ hu)
   exact⟨a++b,by simp [elems,ha,hb]⟩
def lngc(c8 c32:UInt8)(data:List UInt8)(n:Nat):List (UInt8×List UInt8):=
 (if n≤255∧data.length+1≤255 then [(c8,beB 1 (data.length+1)++(beB 1 n++data))]else [])++[(c32,beB 4 (data.length+4)++(beB 4 n++data))]
theorem lngc_hd(c8 c32:UInt8)(data:List UInt8)(n:Nat)(h1:data.length+4<4294967296)(h2:n<4294967296):∀p∈lngc c8 c32 data n,∃h,p.1::p.2=h++data∧Hd c8 c32 n data h:=by
 intro p hp
 have long:∃h,c32::(beB 4 (data.length+4)++(beB 4 n++data))=h++data∧Hd c8 c32 n data h:=
  ⟨c32::(beB 4 (data.length+4)++beB 4 n),by simp,.inr ⟨_,_,rfl,beB_len _ _,beB_len _ _,beNat_beB _ _ (by omega),beNat_beB _ _ (by omega)⟩⟩
 unfold lngc at hp
 split at hp
 ·rename_i hc
  simp only [List.singleton_append,List.mem_cons,List.mem_nil_iff,or_false]at hp
  rcases hp with rfl | rfl
  ·refine⟨[c8,UInt8.ofNat ((data.length+1)/256 ^ 0 % 256),UInt8.ofNat (n/256 ^ 0 % 256)],by simp [beB],.inl ⟨_,_,rfl,?_,?_⟩⟩
   ·simp;omega
   ·simp;omega
  ·exact long
 ·simp only [List.nil_append,List.mem_cons,List.mem_nil_iff,or_false]at hp
  subst hp
  exact long
theorem lngc_len(c8 c32:UInt8)(data:List UInt8)(n:Nat):1≤(lngc c8 c32 data n).length∧(lngc c8 c32 data n).length≤3:=by
 unfold lngc
 split<;>simp
inductive EncW:List V→List UInt8→Prop where
 | nil:EncW [] []
 | plain {v:V} {vs:List V} {b bs:List UInt8} (h:EncV [v] b) (hs:EncW vs bs):EncW (v::vs) (b++bs)
 | comp0 {o od:Int} {c:Nat} {vs:List V} {d bs:List UInt8} (hd:Leaf (.mk 5 c [] [] od []) d) (hs:EncW vs bs):EncW (.mk 21 0 [] [] o [.mk 5 c [] [] od []]::vs) ((0::(d++[69]))++bs)
 | comp {o od:Int} {c:Nat} {kids vs:List V} {d body h bs:List UInt8} (hd:Leaf (.mk 5 c [] [] od []) d) (hk:EncW kids body) (hh:Hd 192 208 kids.length body h) (hm:kids.length≤1000) (hs:EncW vs bs):
  EncW (.mk 21 0 [] kids o [.mk 5 c [] [] od []]::vs) ((0::(d++(h++body)))++bs)
inductive AbleW:List V→Prop where
 | nil:AbleW []
 | plain {v:V} {vs:List V} (h:AbleL [v]) (hs:AbleW vs):AbleW (v::vs)
 | comp {o od:Int} {c:Nat} {kids vs:List V} (hc:c<18446744073709551616) (hk:AbleW kids) (hm:kids.length≤1000) (hs:AbleW vs):AbleW (.mk 21 0 [] kids o [.mk 5 c [] [] od []]::vs)
mutual
def wt:V→Nat
 | .mk _ _ t ks _ ds=>12+t.length+wts ks+wts ds
def wts:List V→Nat
 | []=>0
 | a::r=>wt a+wts r
end
theorem wts_append(a b:List V):wts (a++b)=wts a+wts b:=by
 induction a with
 | nil=>simp [wts]
 | cons x a ih=>simp [wts,ih];omega
theorem wts_take(l:List V)(j:Nat):wts (l.take j)≤wts l:=by
 have:=wts_append (l.take j) (l.drop j)
 rw [List.take_append_drop]at this
 omega
theorem Leaf.short{v:V}{b:List UInt8}(h:Leaf v b):b.length≤wt v:=by
 cases h<;>simp [wt,wts,beB_len]<;>omega
theorem Hd.short{k8 k32:UInt8}{n:Nat}{body h:List UInt8}(H:Hd k8 k32 n body h):h.length≤9:=by
 rcases H with⟨s,c,rfl,_⟩ | ⟨p,q,rfl,hp,hq,_⟩
 ·simp
 ·simp [hp,hq]
theorem Lens.short{s:Nat}(hs:s≤4){d:List UInt8}:∀{ks:List V},Lens s (ks.map V.text) d→d.length≤wts ks
 | [],h=>by cases h;simp
 | v::r,h=>by
   obtain⟨x,hx⟩:∃x,x=(v::r).map V.text:=⟨_,rfl⟩
   rw [←hx]at h
   cases h with
   | nil=>simp at hx
   | cons hq hl hr=>
     simp only [List.map_cons,List.cons.injEq]at hx
     obtain⟨rfl,rfl⟩:=hx
     have:=Lens.short hs hr
     cases v with
     | mk k n t ks o ds=>
       simp only [V.text,List.length_append,wts,wt,hq]at *
       omega
theorem EncA.short{l:List V}{code:UInt8}{d:List UInt8}(h:EncA l code d):d.length≤wts l:=by
 have num:∀(s:Nat),s≤8→∀l:List V,((l.map fun v=>beB s v.num).flatten).length≤wts l:=by
  intro s hs l
  induction l with
  | nil=>simp
  | cons v r ih=>
    cases v with
    | mk k n t ks o ds=>
      simp only [List.map_cons,List.flatten_cons,List.length_append,beB_len,wts,wt]
      omega
 cases h with
 | num hT hp hn=>exact num _ (by cases hT<;>omega) _
 | uuid hp hn=>
   clear hp
   induction l with
   | nil=>simp
   | cons v r ih=>
     cases v with
     | mk k n t ks o ds=>
       have h1:=ih (fun u hu=>hn u (List.mem_cons_of_mem _ hu))
       simp only [List.map_cons,List.flatten_cons,List.length_append,wts,wt,V.text]
       omega
 | text hT hp hn hl=>exact hl.short (by cases hT<;>omega)
theorem EncV.short{l:List V}{b:List UInt8}(h:EncV l b):b.length≤wts l:=by
 induction h with
 | nil=>simp
 | leaf h hs ih=>
   have:=h.short
   simp only [List.length_append,wts];omega
 | list0 hs ih=>simp [wts,wt];omega
 | list hk hh hm hs ih1 ih2=>
   have:=hh.short
   simp only [List.length_append,wts,wt,List.length_nil];omega
 | map hk hh hm ok hs ih1 ih2=>
   have:=hh.short
   simp only [List.length_append,wts,wt,List.length_nil];omega
 | arr hk hh hm hne hs ih=>
   have:=hh.short
   have:=hk.short
   simp only [List.length_append,wts,wt,List.length_nil,List.length_cons];omega
theorem EncW.short{l:List V}{b:List UInt8}(h:EncW l b):b.length≤wts l:=by
 induction h with
 | nil=>simp
 | plain h hs ih=>
   have:=h.short
   simp only [wts]at this
   simp only [List.length_append,wts];omega
 | comp0 hd hs ih=>
   have:=hd.short
   simp only [wts,wt,List.length_nil]at this
   simp only [List.length_append,wts,wt,List.length_nil,List.length_cons];omega
 | comp hd hk hh hm hs ih1 ih2=>
   have:=hd.short
   have:=hh.short
   simp only [wts,wt,List.length_nil]at *
   simp only [List.length_append,wts,wt,List.length_nil,List.length_cons];omega
theorem EncV.append{l m:List V}{b c:List UInt8}(h:EncV l b)(k:EncV m c):EncV (l++m) (b++c):=by
 induction h with
 | nil=>exact k
 | leaf h hs ih=>rw [List.append_assoc];exact .leaf h ih
 | list0 hs ih=>rw [List.append_assoc];exact .list0 ih
 | list hk hh hm hs ih1 ih2=>rw [List.append_assoc];exact .list hk hh hm ih2
 | map hk hh hm ok hs ih1 ih2=>rw [List.append_assoc];exact .map hk hh hm ok ih2
 | arr hk hh hm hne hs ih=>rw [List.append_assoc];exact .arr hk hh hm hne ih
theorem EncW.append{l m:List V}{b c:List UInt8}(h:EncW l b)(k:EncW m c):EncW (l++m) (b++c):=by
 induction h with
 | nil=>exact k
 | plain h hs ih=>rw [List.append_assoc];exact .plain h ih
 | comp0 hd hs ih=>rw [List.append_assoc];exact .comp0 hd ih
 | comp hd hk hh hm hs ih1 ih2=>rw [List.append_assoc];exact .comp hd hk hh hm ih2
mutual
def cnt:V→Nat
 | .mk _ _ _ ks _ ds=>1+cnts ks+cnts ds
def cnts:List V→Nat
 | []=>0
 | a::r=>cnt a+cnts r
end
theorem FitL.short{l:List V}(h:FitL l):wts l≤cnts l*131084:=by
 induction h with
 | nil=>simp [wts]
 | cons h hk hd hs ih1 ih2 ih3=>
   have:=h.short
   simp only [wts,wt,cnts,cnt]
   omega
theorem cnts_append(a b:List V):cnts (a++b)=cnts a+cnts b:=by
 induction a with
 | nil=>simp [cnts]
 | cons x a ih=>simp [cnts,ih];omega
def LM(w:World)(l:List V)(s:Value):Prop:=∃cells,SlM w s l.length cells∧Mem w l cells
def VM(w:World)(v:V)(x:Value):Prop:=∃cells,x=.agg cells.toArray∧Mem w [v] cells
section
variable {w w':World}
theorem SlM.keep{s:Value}{n:Nat}{cells:List Value}(h:SlM w s n cells)(k:New w w'):SlM w' s n cells:=by
 obtain⟨A,c,hs,h1,h2,h3,h4⟩:=h
 refine⟨A,c,hs,h1,h2,h3,fun hn=>?_⟩
 obtain⟨d,i,hA,hc⟩:=h4 hn
 exact⟨d,i,hA,fun q u hu=>k.cell (hc q u hu) trivial⟩
theorem Mem.keep{l:List V}{cells:List Value}(h:Mem w l cells)(k:New w w'):Mem w' l cells:=by
 induction h with
 | nil=>exact .nil
 | cons hn hk hkm hd hdm hs ih1 ih2 ih3=>exact .cons hn (hk.keep k) ih1 (hd.keep k) ih2 ih3
theorem LM.keep{l:List V}{s:Value}(h:LM w l s)(k:New w w'):LM w' l s:=by
 obtain⟨cells,h1,h2⟩:=h
 exact⟨cells,h1.keep k,h2.keep k⟩
theorem VM.keep{v:V}{x:Value}(h:VM w v x)(k:New w w'):VM w' v x:=by
 obtain⟨cells,h1,h2⟩:=h
 exact⟨cells,h1,h2.keep k⟩
theorem VM.mk{k:Int}{n:Nat}{t:List UInt8}{ks ds:List V}{o:Int}{sk sd:Value}(hn:n<18446744073709551616)(hk:LM w ks sk)(hd:LM w ds sd):VM w (.mk k n t ks o ds) (.agg #[.int .i64 k,.int .u64 (n:Int),.string ⟨t.toArray⟩,sk,.int .i64 o,sd]):=by
 obtain⟨ck,k1,k2⟩:=hk
 obtain⟨cd,d1,d2⟩:=hd
 exact⟨_,rfl,.cons hn k1 k2 d1 d2 .nil⟩
theorem VM.inv{k:Int}{n:Nat}{t:List UInt8}{ks ds:List V}{o:Int}{x:Value}(h:VM w (.mk k n t ks o ds) x):∃sk sd,x=.agg #[.int .i64 k,.int .u64 (n:Int),.string ⟨t.toArray⟩,sk,.int .i64 o,sd]∧n<18446744073709551616∧LM w ks sk∧LM w ds sd:=by
 obtain⟨cells,rfl,hm⟩:=h
 cases hm with
 | cons hn hk hkm hd hdm hs=>
   cases hs
   exact⟨_,_,rfl,hn,⟨_,hk,hkm⟩,⟨_,hd,hdm⟩⟩
theorem LM.nil:LM w [] (.slice none 0 0):=⟨[],slM_nil w,.nil⟩
theorem LM.shape{l:List V}{s:Value}(h:LM w l s):∃A c,s=.slice A l.length c∧l.length≤c∧c≤maxLen:=by
 obtain⟨cells,⟨A,c,hs,h1,h2,_⟩,_⟩:=h
 exact⟨A,c,hs,h1,h2⟩
theorem LM.own{base:Nat}{l:List V}{s:Value}{cells:List Value}(h:w.ownsRow base 78 6 s l.length cells)(hm:Mem w l cells):LM w l s:=⟨cells,slM_own h,hm⟩
theorem Mem.at{l:List V}{cells:List Value}(h:Mem w l cells):∀j (hj:j<l.length),∃a0 a1 a2 a3 a4 a5,VM w l[j] (.agg #[a0,a1,a2,a3,a4,a5])∧cells[j*6]? =some a0∧cells[j*6+1]? =some a1∧cells[j*6+2]? =some a2∧cells[j*6+3]? =some a3∧cells[j*6+4]? =some a4∧cells[j*6+5]? =some a5:=by
 induction h with
 | nil=>intro j hj;simp at hj
 | cons hn hk hkm hd hdm hs ih1 ih2 ih3=>
   intro j hj
   cases j with
   | zero=>exact⟨_,_,_,_,_,_,VM.mk hn ⟨_,hk,hkm⟩ ⟨_,hd,hdm⟩,by simp,by simp,by simp,by simp,by simp,by simp⟩
   | succ j=>
     obtain⟨a0,a1,a2,a3,a4,a5,h0,h1,h2,h3,h4,h5,h6⟩:=ih3 j (by simpa using hj)
     have e:∀q,(j+1)*6+q=j*6+q+6:=by intro q;omega
     have e0:(j+1)*6=j*6+6:=by omega
     refine⟨a0,a1,a2,a3,a4,a5,by simpa using h0,?_,?_,?_,?_,?_,?_⟩
     ·rw [e0];simpa using h1
     ·rw [e];simpa using h2
     ·rw [e];simpa using h3
     ·rw [e];simpa using h4
     ·rw [e];simpa using h5
     ·rw [e];simpa using h6
theorem LM.at{l:List V}{s:Value}(h:LM w l s)(hne:l≠[]):∃d i c,s=.slice (some ⟨d,i,none⟩) l.length c∧l.length≤c∧c≤maxLen∧∀j (hj:j<l.length),∃a0 a1 a2 a3 a4 a5,VM w l[j] (.agg #[a0,a1,a2,a3,a4,a5])∧w.cell? ⟨d,i+j*6,none⟩=some a0∧w.cell? ⟨d,i+j*6+1,none⟩=some a1∧w.cell? ⟨d,i+j*6+2,none⟩=some a2∧w.cell? ⟨d,i+j*6+3,none⟩=some a3∧w.cell? ⟨d,i+j*6+4,none⟩=some a4∧w.cell? ⟨d,i+j*6+5,none⟩=some a5:=by
 obtain⟨cells,⟨A,c,rfl,h1,h2,h3,h4⟩,hm⟩:=h
 obtain⟨d,i,rfl,hc⟩:=h4 (by simpa using hne)
 refine⟨d,i,c,rfl,h1,h2,fun j hj=>?_⟩
 obtain⟨a0,a1,a2,a3,a4,a5,h0,e0,e1,e2,e3,e4,e5⟩:=hm.at j hj
 have get:∀q a,cells[j*6+q]? =some a→q<6→w.cell? ⟨d,i+j*6+q,none⟩=some a:=fun q a ha hq=>by
  rw [Nat.add_assoc]
  exact hc (j*6+q) a ha
 exact⟨a0,a1,a2,a3,a4,a5,h0,get 0 _ e0 (by omega),get 1 _ e1 (by omega),get 2 _ e2 (by omega),get 3 _ e3 (by omega),get 4 _ e4 (by omega),get 5 _ e5 (by omega)⟩
end
def RowV(w:World)(base:Nat)(sk:Value)(us:List V):Prop:=
 ∃cells,w.ownsRow base 78 6 sk us.length cells∧Dep (fun b=>base≤b∧some b≠sk.ownBlock) w (fun w=>Mem w us cells)
theorem RowV.nil{w:World}{base:Nat}:RowV w base (.slice none 0 0) []:=⟨[],⟨rfl,.inl ⟨rfl,rfl⟩⟩,fun _ _=>.nil⟩
theorem own_keepK{ok:Nat→Prop}{w w':World}{base n:Nat}{v:Value}{xs:List Value}(h:w.ownsRow base 78 6 v n xs)(k:Keep ok w w')(ho:∀b,base≤b→ok b):w'.ownsRow base 78 6 v n xs:=by
 obtain⟨h1,h2⟩:=h
 refine⟨h1,?_⟩
 rcases h2 with h2 | ⟨g,cap,cur,hv,hg,hb,hr⟩
 ·exact .inl h2
 ·exact .inr ⟨g,cap,cur,hv,hg,k.blk hb (ho _ hg),hr⟩
theorem RowV.keep{ok:Nat→Prop}{w w':World}{base:Nat}{sk:Value}{us:List V}(h:RowV w base sk us)(k:Keep ok w w')(ho:∀b,base≤b→ok b):RowV w' base sk us:=by
 obtain⟨cells,h1,h2⟩:=h
 exact⟨cells,own_keepK h1 k ho,h2.keep k fun b _ hb=>ho b hb.1⟩
theorem RowV.shape{w:World}{base:Nat}{sk:Value}{us:List V}(h:RowV w base sk us):∃A c,sk=.slice A us.length c:=by
 obtain⟨cells,h1,_⟩:=h
 rcases h1.2 with⟨rfl,h⟩ | ⟨g,cap,cur,rfl,_⟩
 ·rw [h];exact⟨none,0,rfl⟩
 ·exact⟨_,cap,rfl⟩
theorem RowV.far{w:World}{base:Nat}{sk:Value}{us:List V}(h:RowV w base sk us)(k:Nat)(hk:k<base):some k≠sk.ownBlock:=by
 obtain⟨cells,h1,_⟩:=h
 rcases h1.2 with⟨rfl,_⟩ | ⟨g,cap,cur,rfl,hg,_⟩
 ·intro e;cases e
 ·intro e
  injection e with e
  simp at e
  omega
theorem RowV.step{w:World}{base:Nat}{sk:Value}{us vs:List V}(h:RowV w base sk us)(B i c:Nat)(news:List Value)(hB:∀j u,news[j]? =some u→w.cell? ⟨B,i+j,none⟩=some u)
 (hm:Dep (fun b=>base≤b∧some b≠sk.ownBlock) w (fun w=>Mem w vs news)) (hv:0<vs.length) (hn:us.length+vs.length≤1000000) (hbase:base≤w.heap.size):
 ∃g cap w',(Builtin.append_ #[43,43] 43 #[sk,.slice (some ⟨B,i,none⟩) vs.length c]).run Tryz.prog w=.ok (.slice (some ⟨g,0,none⟩) (us.length+vs.length) cap) w'∧
  RowV w' base (.slice (some ⟨g,0,none⟩) (us.length+vs.length) cap) (us++vs)∧Keep (fun k=>some k≠sk.ownBlock) w w':=by
 obtain⟨cells,h1,h2⟩:=h
 obtain⟨i0,hi,hz,hs,hb⟩:=info_parts info78
 have hlen:=hm.here.len
 obtain⟨g,cap,w',hr,h3,h4,h5,h6⟩:=run_append_lies (P:=Tryz.prog) w 43 43 base 78 i0 _ 6 88 Tryz.underlying43 hi hz hs hb rfl (by omega) sk us.length cells h1 ⟨B,i,none⟩ vs.length c news hlen (fun j u hj=>by
  have hplain:(⟨B,i,none⟩:Addr).add j=⟨B,i+j,none⟩:=by unfold Addr.add;split<;>simp_all
  rw [hplain]
  exact hB j u hj) hm.here.one hv (by unfold maxLen;omega) (by omega) hbase w.heap.size rfl
 have kk:Keep (fun k=>some k≠sk.ownBlock) w w':=Keep.of_grown h4 (fun k hk=>hk)
 refine⟨g,cap,w',hr,⟨cells++news,by simpa using h3,?_⟩,kk⟩
 refine((h2.and hm).step kk.size (fun k hk hb=>kk.block k hk hb.2) (fun k hk hb=>⟨hb.1,fun e=>?_⟩)).imp fun w' h=>h.1.append h.2
 have e':k=g:=by simpa [Value.ownBlock]using e
 rcases h5 with h5 | h5
 ·exact hb.2 (by rw [e',h5])
 ·omega
theorem RowV.out{w:World}{base:Nat}{sk:Value}{us:List V}(h:RowV w base sk us):Dep (fun b=>base≤b) w (fun w=>LM w us sk):=by
 obtain⟨cells,h1,h2⟩:=h
 intro w' hw
 have hown:w'.ownsRow base 78 6 sk us.length cells:=by
  obtain⟨e1,e2⟩:=h1
  refine⟨e1,?_⟩
  rcases e2 with e2 | ⟨g,cap,cur,hv,hg,hb,hr⟩
  ·exact .inl e2
  ·exact .inr ⟨g,cap,cur,hv,hg,(hw g (lt_blk hb) hg).trans hb,hr⟩
 exact .own hown (h2 w' fun k hk hb=>hw k hk hb.1)
inductive NoD:List V→Prop where
 | nil:NoD []
 | cons {k:Int} {n:Nat} {t:List UInt8} {ks vs:List V} {o:Int} (hk:NoD ks) (hs:NoD vs):NoD (.mk k n t ks o []::vs)
def RowB(w:World)(base:Nat)(sk:Value)(bs:List UInt8):Prop:=w.ownsRow base 5 1 sk bs.length (bs.map fun x=>.int .u8 (x.toNat:Int))
theorem RowB.nil{w:World}{base:Nat}:RowB w base (.slice none 0 0) []:=⟨rfl,.inl ⟨rfl,rfl⟩⟩
theorem RowB.keep{ok:Nat→Prop}{w w':World}{base:Nat}{sk:Value}{bs:List UInt8}(h:RowB w base sk bs)(k:Keep ok w w')(ho:∀b,base≤b→ok b):RowB w' base sk bs:=by
 obtain⟨h1,h2⟩:=h
 refine⟨h1,?_⟩
 rcases h2 with h2 | ⟨g,cap,cur,hv,hg,hb,hr⟩
 ·exact .inl h2
 ·exact .inr ⟨g,cap,cur,hv,hg,k.blk hb (ho _ hg),hr⟩
theorem RowB.mono{w:World}{base base':Nat}{sk:Value}{bs:List UInt8}(h:RowB w base sk bs)(hb:base'≤base):RowB w base' sk bs:=by
 obtain⟨h1,h2⟩:=h
 refine⟨h1,?_⟩
 rcases h2 with h2 | ⟨g,cap,cur,hv,hg,hr⟩
 ·exact .inl h2
 ·exact .inr ⟨g,cap,cur,hv,by omega,hr⟩
theorem RowB.far{w:World}{base:Nat}{sk:Value}{bs:List UInt8}(h:RowB w base sk bs)(k:Nat)(hk:k<base):some k≠sk.ownBlock:=by
 rcases h.2 with⟨rfl,_⟩ | ⟨g,cap,cur,rfl,hg,_⟩
 ·intro e;cases e
 ·intro e
  injection e with e
  simp at e
  omega
theorem RowB.lt{w:World}{base:Nat}{sk:Value}{bs:List UInt8}(h:RowB w base sk bs){g:Nat}(hg:sk.ownBlock=some g):g<w.heap.size:=by
 rcases h.2 with⟨rfl,_⟩ | ⟨g',cap,cur,rfl,_,hb,_⟩
 ·cases hg
 ·have:g'=g:=by simpa [Value.ownBlock]using hg
  rw [←this]
  exact lt_blk hb
theorem RowB.shape{w:World}{base:Nat}{sk:Value}{bs:List UInt8}(h:RowB w base sk bs):∃A c,sk=.slice A bs.length c:=by
 rcases h.2 with⟨rfl,h0⟩ | ⟨g,cap,cur,rfl,_⟩
 ·rw [h0];exact⟨none,0,rfl⟩
 ·exact⟨_,cap,rfl⟩
theorem RowB.out{w:World}{base:Nat}{sk:Value}{bs:List UInt8}(h:RowB w base sk bs):Dep (fun b=>base≤b) w (fun w=>SlB w sk bs):=by
 rcases h.2 with⟨rfl,h0⟩ | ⟨g,cap,cur,rfl,hg,hb,hn,hc,hs,ht⟩
 ·have:bs=[]:=List.eq_nil_of_length_eq_zero h0
  subst this
  exact fun _ _=>⟨none,0,rfl,Nat.le_refl _,by omega,fun h=>absurd rfl h⟩
 ·intro w' hw
  refine⟨_,cap,rfl,hn,by unfold maxLen at hc;omega,fun _=>⟨g,0,rfl,cur,(hw g (lt_blk hb) hg).trans hb,fun j hj=>?_⟩⟩
  have:(cur.toList.take (bs.length*1))[j]? =(bs.map fun x=>Value.int .u8 (x.toNat:Int))[j]? :=by rw [ht]
  rw [List.getElem?_take_of_lt (by omega),Array.getElem?_toList]at this
  rw [Nat.zero_add,this]
  simp [hj]
theorem RowB.app{w:World}{base:Nat}{sk:Value}{bs:List UInt8}(h:RowB w base sk bs){v:Value}{l:List UInt8}(hv:SlB w v l)(hn:bs.length+l.length≤1099511627776)(hbase:base≤w.heap.size):
 ∃sk' w',(Builtin.append_ #[27,27] 27 #[sk,v]).run Tryz.prog w=.ok sk' w'∧RowB w' base sk' (bs++l)∧Keep (fun k=>some k≠sk.ownBlock) w w'∧(sk'.ownBlock=sk.ownBlock∨sk'.ownBlock=some w.heap.size):=by
 obtain⟨i0,hi,hz,hs,hb⟩:=info_parts info5
 obtain⟨A,c,rfl,hl1,hc,hA⟩:=hv
 cases A with
 | some ad=>
   obtain⟨v',w',hr,h2,h3,_,h5⟩:=run_append_own_at (P:=Tryz.prog) (w:=w) base 27 27 5 i0 _ 1 1 Tryz.underlying27 hi hz hs hb rfl (by omega) sk bs.length _ h ad l.length c (l.map fun x=>Value.int .u8 (x.toNat:Int)) (by simp) (fun j u hj=>by
    have hjl:j<l.length:=by
     rcases Nat.lt_or_ge j l.length with h | h
     ·exact h
     ·simp [List.getElem?_eq_none (show(l.map fun x=>Value.int .u8 (x.toNat:Int)).length≤j by simpa using h)]at hj
    obtain⟨d,i,he,hd⟩:=hA (fun e=>by rw [e]at hjl;simp at hjl)
    injection he with he
    subst he
    have hplain:(⟨d,i,none⟩:Addr).add j=⟨d,i+j,none⟩:=by unfold Addr.add;split<;>simp_all
    rw [hplain,hd.cell j hjl]
    simpa [hjl]using hj) (by intro u hu;obtain⟨x,_,rfl⟩:=List.mem_map.1 hu;rfl) (by unfold maxLen;omega) (by omega) hbase
   exact⟨v',w',hr,by unfold RowB;rw [List.length_append,List.map_append];exact h2,Keep.of_grown h3 (fun k hk=>hk),h5⟩
 | none=>
   have hl0:l=[]:=by
    rcases l with _ | ⟨x,l⟩
    ·rfl
    ·obtain⟨d,i,he,_⟩:=hA (by simp)
     cases he
   subst hl0
   obtain⟨A',c',rfl⟩:=h.shape
   refine⟨_,w,?_,by rw [List.append_nil];exact h,Keep.refl _ _,.inl rfl⟩
   have hle:bs.length≤c':=by
    rcases h.2 with⟨e,h0⟩ | ⟨g,cap,cur,e,hg,hb,hn,_⟩
    ·injection e with _ _ e;omega
    ·injection e with _ _ e;omega
   exact run_append_nothing w 27 27 27 5 i0 Tryz.underlying27 hi A' bs.length c' hle _ (Src.ofNil w Tryz.underlying27 c)
theorem ulong_reads{c:Nat}{od:Int}{d:List UInt8}(hd:Leaf (.mk 5 c [] [] od []) d)(g:Nat)(r:List UInt8)(w:World)(H:Buf w g (d++r)):
 Calls Tryz.prog 93 #[.pointer (some ⟨g,0,none⟩)] w fun e w'=>e=.returned (.tuple #[.int .u64 (c:Int),.nilIface])∧Adv g r w w':=by
 cases hd with
 | u64z o=>exact readUlong_44 g r w H
 | u64s n o h=>
   have hb:(UInt8.ofNat (c/256 ^ 0 % 256)).toNat=c:=by simp;omega
   have:=readUlong_53 g (UInt8.ofNat (c/256 ^ 0 % 256)) r w (by simpa [beB]using H)
   rw [hb]at this
   exact this
 | u64 n o h=>
   have:=readUlong_80 g (beB 8 c) (beB_len _ _) r w (by simpa using H)
   rw [beNat_beB _ _ (by simpa using h)]at this
   exact this
theorem readList_0(g:Nat)(r:List UInt8)(w:World)(H:Buf w g (69::r)):
 Calls Tryz.prog 94 #[.pointer (some ⟨g,0,none⟩)] w fun e w'=>e=.returned (.tuple #[.int .i64 0,.nilIface])∧Adv g r w w':=by
 have hlen:=H.len
 go_enter Tryz.func94,Tryz.ntmps94
 go_wp2_with fail
 refine(readType_is g 69 r _ H).mono ?_
 rintro e w1 ⟨rfl,h1⟩
 go_wp2_with fail
 refine(buf_Len g r w1 h1.2).mono ?_
 rintro e w2 ⟨rfl,h2⟩
 go_wp2
 go_ret2
 exact⟨rfl,h1.trans h2⟩
def LHd(n:Nat)(body h:List UInt8):Prop:=n=0∧h=[69]∧body=[]∨Hd 192 208 n body h
theorem compHead(g c n:Nat)(od:Int)(d lb body r:List UInt8)(hc:c<256)(hd:Leaf (.mk 5 c [] [] od []) d)(Hh:LHd n body lb)(hn:n≤body.length)(hmax:n≤65536)(w:World)(H:Buf w g (0::(d++(lb++(body++r))))):
 Calls Tryz.prog 78 #[.pointer (some ⟨g,0,none⟩)] w fun e w'=>e=.returned (.tuple #[.int .u8 (c:Int),.int .i64 (n:Int),.nilIface])∧Adv g (body++r) w w':=by
 have hu:IntKind.u8.wrap (c:Int)=c:=by rw [IntKind.wrap_u8];omega
 have head:∀w1,Buf w1 g (lb++(body++r))→Calls Tryz.prog 94 #[.pointer (some ⟨g,0,none⟩)] w1 fun e w'=>e=.returned (.tuple #[.int .i64 (n:Int),.nilIface])∧Adv g (body++r) w1 w':=fun w1 B1=>by
  rcases Hh with⟨rfl,rfl,rfl⟩ | Hh
  ·exact readList_0 g r w1 B1
  ·exact listHead g n body r lb Hh hn hmax w1 B1
 have HH:=Lib.hid head
 have HD:=Lib.hid hd
 clear head Hh hd
 go_enter Tryz.func78,Tryz.ntmps78
 go_wp2_with fail
 refine(readType_is g 0 _ _ H).mono ?_
 rintro e w1 ⟨rfl,h1⟩
 go_wp2_with fail
 refine(ulong_reads HD.out g _ _ h1.2).mono ?_
 rintro e w2 ⟨rfl,h2⟩
 go_wp2_with fail
 refine(HH.out _ h2.2).mono ?_
 rintro e w3 ⟨rfl,h3⟩
 go_wp2
 refine bodyPost_ret (v:=.tuple #[.int .u8 (c:Int),.int .i64 (n:Int),.nilIface]) (by simp [results,Tryz.results78,go_sem]) rfl ⟨rfl,(h1.trans h2).trans h3⟩
def IntMap(w:World)(m:Nat)(l:List (Int×Int)):Prop:=∃es clock,w.heap[m]? =some (.map es clock)∧es.toList.map (fun e=>(e.key,e.val))=l.map fun q=>(Value.int .i64 q.1,Value.int .i64 q.2)
theorem findNow_int:∀(es:List MapEntry) (l:List (Int×Int)) (i:Nat) (k:Int),es.map (fun e=>(e.key,e.val))=l.map (fun q=>(Value.int .i64 q.1,Value.int .i64 q.2))→(l.lookup k=none∧Instr.findNow (.int .i64) (.int .i64 k) es i=some none)∨∃j v,l.lookup k=some v∧Instr.findNow (.int .i64) (.int .i64 k) es i=some (some (j,.int .i64 v))
 | [],[],i,k,_=>.inl ⟨rfl,rfl⟩
 | [],_::_,_,_,h=>by simp at h
 | _::_,[],_,_,h=>by simp at h
 | e::es,(a,b)::l,i,k,h=>by
   simp only [List.map_cons,List.cons.injEq,Prod.mk.injEq]at h
   obtain⟨⟨h1,h2⟩,h3⟩:=h
   by_cases hk:k=a
   ·subst hk
    refine .inr ⟨i,b,by simp [List.lookup],?_⟩
    simp [Instr.findNow,h1,Instr.sameNow,h2]
   ·have hb:(k==a)=false:=by simpa using hk
    have:=findNow_int es l (i+1) k h3
    simpa [Instr.findNow,h1,Instr.sameNow,hb,List.lookup]using this
theorem check_int(b:Bool)(k:Int)(w:World):(Instr.checkKey b 10000 3 (.int .i64 k)).run Tryz.prog w=.ok () w:=by
 have gen:∀d,(Instr.checkKey b (d+1) 3 (.int .i64 k)).run Tryz.prog w=.ok () w:=fun d=>by
  simp [Instr.checkKey,run_underlying Tryz.underlying3,Result.andThen]
 exact gen 9999
theorem IntMap.upd{w:World}{m:Nat}{l:List (Int×Int)}(h:IntMap w m l)(k v:Int)(hk:l.lookup k=none):
 ∃w',(Instr.mapUpdate 294 (.map (some m)) (.int .i64 k) (.int .i64 v)).run Tryz.prog w=.ok () w'∧IntMap w' m (l++[(k,v)])∧Keep (fun b=>b≠m) w w':=by
 obtain⟨es,clock,hm,hl⟩:=h
 have hlt:=lt_blk hm
 have hf:(Instr.findKey 3 (.int .i64 k) es.toList).run Tryz.prog w=.ok none w:=by
  unfold Instr.findKey
  rcases findNow_int es.toList l 0 k hl with⟨_,h⟩ | ⟨j,v',h',_⟩
  ·simp only [Sem.run_bind,run_underlying Tryz.underlying3,Result.andThen_ok,h]
   rfl
  ·rw [hk]at h';cases h'
 refine⟨{ w with heap:=w.heap.setIfInBounds m (.map (es.push { key:=.int .i64 k,val:=.int .i64 v,born:=clock }) (clock+1)) },?_,⟨_,_,by simp [hlt];exact⟨rfl,rfl⟩,by simp [hl]⟩,⟨rfl,rfl,rfl,by simp,fun b hb hne=>by simp [Array.getElem?_setIfInBounds_ne (Ne.symm hne)]⟩⟩
 simp only [Instr.mapUpdate,Sem.run_bind,run_underlying Tryz.underlying294,Result.andThen_ok,getObj,Sem.run,hm,check_int,hf,setObj]
theorem IntMap.look{w:World}{m:Nat}{l:List (Int×Int)}(h:IntMap w m l)(k:Int):(Instr.lookup 294 (.map (some m)) (.int .i64 k) false).run Tryz.prog w=.ok (.int .i64 ((l.lookup k).getD 0)) w:=by
 obtain⟨es,clock,hm,hl⟩:=h
 simp only [Instr.lookup,Sem.run_bind,run_underlying Tryz.underlying294,Result.andThen_ok,getObj,hm,Sem.run_pure]
 simp only [Sem.run,hm,Result.andThen_ok,Sem.run_pure,check_int,Sem.run_bind,Instr.findKey,run_underlying Tryz.underlying3]
 rcases findNow_int es.toList l 0 k hl with⟨h1,h2⟩ | ⟨j,v',h1,h2⟩
 ·rw [h1,h2]
  kernel_rfl
 ·rw [h1,h2]
  rfl
theorem make294(w:World):(Instr.makeMap 294 none).run Tryz.prog w=.ok (.map (some w.heap.size)) (w.alloc (.map #[] 0)):=by kernel_rfl
theorem IntMap.new(w:World):IntMap (w.alloc (.map #[] 0)) w.heap.size []:=⟨#[],0,blk_new _ _,rfl⟩
end Go.Proofs.YtfoegolfadhmjaaGreatDoor
namespace Go.Proofs.YtfoegolfadhmjaaGreatDoor
open Go.RowKit Go.WideShapes Go.ChangeShapes
def fieldsOf:Option TypeDesc→Option (List (TypeId×Nat))
 | some (.struct fs)=>some (fs.toList.map fun f=>(f.type,f.offset))
 | _=>none
theorem under78:fieldsOf (Tryz.prog.underlying 78)=some [(3,0),(26,1),(9,2),(43,3),(3,4),(43,5)]:=by kernel_rfl
theorem cells78:Tryz.prog.cellsOf 78=6:=by kernel_rfl
section
variable {H:Type} {enc:TypeId×Value→H} {w:World} {sp:Nat→Bool} {held:Bool}
theorem trod_fields{t:TypeId}{L:List (TypeId×Nat)}(hu:fieldsOf (Tryz.prog.underlying t)=some L){fuel:Nat}{cs:List Value}{x:DataW H×List MemPlace}
 (h:DataW.trod enc Tryz.prog w 0 sp held fuel t cs=some x):∃n,fuel=n+1∧cs.length=Tryz.prog.cellsOf t∧∀(i:Nat) (q:TypeId×Nat),L[i]? =some q→∃y,DataW.trod enc Tryz.prog w 0 sp held n q.1 ((cs.drop q.2).take (Tryz.prog.cellsOf q.1))=some y:=by
 cases ht:Tryz.prog.underlying t with
 | none=>rw [ht]at hu;cases hu
 | some d=>
   rw [ht]at hu
   cases d with
   | struct fs=>
     simp only [fieldsOf,Option.some.injEq]at hu
     obtain⟨xs,n,hf,hx,hl,hsz,he⟩:=DataW.trod_struct ht h
     refine⟨n,hf,hl,fun i q hq=>?_⟩
     rw [←hu,List.getElem?_map]at hq
     cases hf':fs.toList[i]? with
     | none=>rw [hf']at hq;cases hq
     | some f=>
       rw [hf']at hq
       cases hq
       have hi:i<fs.size:=by have:=(List.getElem?_eq_some_iff.1 hf').1;simpa using this
       have h1:=he i f (by rw [←Array.getElem?_toList];exact hf')
       rw [List.getElem?_eq_getElem (show i<xs.length by omega)]at h1
       exact⟨_,h1⟩
   | _=>cases hu
theorem trod_int1{t:TypeId}{k:IntKind}(ht:Tryz.prog.underlying t=some (.int k)){fuel:Nat}{cs:List Value}{x:DataW H×List MemPlace}(h:DataW.trod enc Tryz.prog w 0 sp held fuel t cs=some x):∃n,cs=[.int k n]∧(Lit.int k n).wf=true:=by
 obtain⟨n,h1,_,h2⟩:=DataW.trod_int ht h
 exact⟨n,h1,h2⟩
theorem plain_add(d i q:Nat):(⟨d,i,none⟩:Addr).add q=⟨d,i+q,none⟩:=by unfold Addr.add;split<;>simp_all
theorem trod_both(fuel:Nat):(∀{cs:List Value} {x:DataW H×List MemPlace},DataW.trod enc Tryz.prog w 0 sp held fuel 78 cs=some x→∃v,Mem w [v] cs)∧
 (∀{c:Value} {x:DataW H×List MemPlace},DataW.trod enc Tryz.prog w 0 sp held fuel 43 [c]=some x→∃l cells,SlM w c l.length cells∧Mem w l cells):=by
 induction fuel with
 | zero=>exact⟨fun h=>by simp [DataW.trod]at h,fun h=>by simp [DataW.trod]at h⟩
 | succ n ih=>
   refine⟨fun {cs x} h=>?_,fun {c x} h=>?_⟩
   ·obtain⟨n',hn',hl,hf⟩:=trod_fields under78 h
    obtain rfl:n=n':=by omega
    rw [cells78]at hl
    obtain⟨y0,h0⟩:=hf 0 _ rfl
    obtain⟨y1,h1⟩:=hf 1 _ rfl
    obtain⟨y2,h2⟩:=hf 2 _ rfl
    obtain⟨y3,h3⟩:=hf 3 _ rfl
    obtain⟨y4,h4⟩:=hf 4 _ rfl
    obtain⟨y5,h5⟩:=hf 5 _ rfl
    match cs,hl with
    | [c0,c1,c2,c3,c4,c5],_=>
      rw [show Tryz.prog.cellsOf 3=1 by kernel_rfl]at h0 h4
      rw [show Tryz.prog.cellsOf 26=1 by kernel_rfl]at h1
      rw [show Tryz.prog.cellsOf 9=1 by kernel_rfl]at h2
      rw [show Tryz.prog.cellsOf 43=1 by kernel_rfl]at h3 h5
      simp only [List.drop_zero,List.drop_succ_cons,List.take_succ_cons,List.take_zero]at h0 h1 h2 h3 h4 h5
      obtain⟨k,e0,-⟩:=trod_int1 Tryz.underlying3 h0
      obtain⟨m,e1,hm⟩:=trod_int1 Tryz.underlying26 h1
      obtain⟨s,e2,-,-⟩:=DataW.trod_string Tryz.underlying9 h2
      obtain⟨ks,ck,hk1,hk2⟩:=ih.2 h3
      obtain⟨o,e4,-⟩:=trod_int1 Tryz.underlying3 h4
      obtain⟨ds,cd,hd1,hd2⟩:=ih.2 h5
      cases e0;cases e1;cases e2;cases e4
      have hm':0≤m∧m<18446744073709551616:=by
       simp only [Lit.wf,decide_eq_true_eq,Bool.and_eq_true]at hm
       have u1:IntKind.u64.min=0:=by decide
       have u2:IntKind.u64.max=18446744073709551615:=by decide
       omega
      obtain⟨m',rfl⟩:=Int.eq_ofNat_of_zero_le hm'.1
      refine⟨.mk k m' s.data.toList ks o ds,?_⟩
      have hs:(⟨s.data.toList.toArray⟩:ByteArray)=s:=by cases s;simp
      have:=Mem.cons (w:=w) (k:=k) (n:=m') (t:=s.data.toList) (o:=o) (by omega) hk1 hk2 hd1 hd2 .nil
      rw [hs]at this
      exact this
   ·rcases DataW.trod_slice Tryz.underlying43 h with⟨e,-⟩ | ⟨a,len,cap,elems,rest,n',hn',e,-,-,hl,hm,hlen,hel,-⟩
    ·cases e
     exact⟨[],[],slM_nil w,.nil⟩
    ·cases e
     obtain rfl:n=n':=by omega
     rw [cells78]at hel
     have key:∀j,j≤len→∃l cells,l.length=j∧cells.length=j*6∧Mem w l cells∧∀q,q<j*6→w.cell? (a.add q)=cells[q]? :=by
      intro j
      induction j with
      | zero=>intro _;exact⟨[],[],rfl,rfl,.nil,fun q hq=>absurd hq (by omega)⟩
      | succ j ihj=>
        intro hj
        obtain⟨l,cells,e1,e2,e3,e4⟩:=ihj (by omega)
        have hE:=hel j (by omega)
        rw [List.getElem?_eq_getElem (show j<elems.length by omega),Option.bind_eq_some_iff]at hE
        obtain⟨cj,hc,ht⟩:=hE
        obtain⟨-,hc1,hc2⟩:=World.cells?_some hc
        obtain⟨v,hv⟩:=ih.1 ht
        refine⟨l++[v],cells++cj,by simp [e1],by simp [e2,hc1];omega,e3.append hv,fun q hq=>?_⟩
        by_cases hlt:q<j*6
        ·rw [e4 q hlt,List.getElem?_append_left (by omega)]
        ·rw [List.getElem?_append_right (by omega),e2,←hc2 (q-j*6) (by omega)]
         congr 1
         unfold Addr.add
         by_cases h0:j*6=0
         ·simp [h0]
         ·have h1:q≠0:=by omega
          simp only [h0,h1,if_false]
          split<;>simp<;>omega
     obtain⟨l,cells,rfl,e2,e3,e4⟩:=key len (Nat.le_refl _)
     refine⟨l,cells,⟨some a,cap,rfl,hl,hm,e2,fun hne=>?_⟩,e3⟩
     have hs:a.spot=none:=by
      have h0:=e4 0 (by omega)
      rw [List.getElem?_eq_getElem (by omega)]at h0
      unfold World.cell? at h0
      have ha:a.add 0=a:=rfl
      rw [ha]at h0
      split at h0
      ·cases hsp:a.spot with
       | none=>rfl
       | some u=>rw [hsp]at h0;simp at h0
      ·cases h0
     obtain⟨d,i,s⟩:=a
     cases hs
     refine⟨d,i,rfl,fun q u hq=>?_⟩
     have hql:q<l.length*6:=by have:=(List.getElem?_eq_some_iff.1 hq).1;omega
     rw [←plain_add,e4 q hql]
     exact hq
end
end Go.Proofs.YtfoegolfadhmjaaGreatDoor
