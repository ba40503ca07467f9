/- spec.big. -/
import Derived.Test.YtfoegolfadhmjaaGreatDoorZ04
import Derived.Shelf.Sort.Plain
import Derived.Shelf.Slices.In.SortNone2
import Derived.Test.YtfoegolfadhmjaaGreatDoorProg
set_option linter.all false
set_option maxRecDepth 100000
set_option maxHeartbeats 4000000
namespace Go.Proofs.YtfoegolfadhmjaaGreatDoor
open Go.RowKit Go.WideShapes
def ValOK(w:World)(v:V)(x:Value):Prop:=
 ∀w1,New w w1→Calls Tryz.prog 91 #[x] w1 fun e w2=>∃y u,e=.returned (.tuple #[y,.bool true])∧New w1 w2∧Sims [v] [u]∧Dep (fun b=>w1.heap.size≤b) w2 (fun w=>VM w u y)
theorem Sims.app{l m l' m':List V}(h:Sims l m)(k:Sims l' m'):Sims (l++l') (m++m'):=by
 induction h with
 | nil=>exact k
 | leaf hk hk' h0 hs ih=>exact .leaf hk hk' h0 ih
 | list hk hs _ ih=>exact .list hk ih
 | map hp h1 hk hs _ ih=>exact .map hp h1 hk ih
 | arr hk h1 hsk hs _ ih=>exact .arr hk h1 hsk ih
theorem VM.parts{w:World}{u:V}{y:Value}(h:VM w u y):∃k n t A l c o A' l' c',y=.agg #[.int .i64 k,.int .u64 n,.string t,.slice A l c,.int .i64 o,.slice A' l' c']:=by
 obtain⟨k,n,t,ks,o,ds⟩:=u
 obtain⟨sk,sd,rfl,hn,hk,hd⟩:=h.inv
 obtain⟨A,c,rfl,_⟩:=hk.shape
 obtain⟨A',c',rfl,_⟩:=hd.shape
 exact⟨k,n,_,A,_,c,o,A',_,c',rfl⟩
theorem VM.mem{w:World}{u:V}{cells:Array Value}(h:VM w u (.agg cells)):Mem w [u] cells.toList:=by
 obtain⟨cs,he,hm⟩:=h
 injection he with he
 subst he
 simpa using hm
theorem RowV.ownLt{w:World}{base:Nat}{sk:Value}{us:List V}(h:RowV w base sk us){g:Nat}(hg:sk.ownBlock=some g):g<w.heap.size:=by
 obtain⟨cells,h1,_⟩:=h
 rcases h1.2 with⟨rfl,_⟩ | ⟨g',cap,cur,rfl,_,hb,_⟩
 ·cases hg
 ·have:g'=g:=by simpa [Value.ownBlock]using hg
  rw [←this]
  exact lt_blk hb
theorem listed_nil(w:World):Calls Tryz.prog 151 #[.slice none 0 0] w fun e w'=>e=.returned (.tuple #[.slice none 0 0,.bool true])∧New w w':=by
 go_enter Tryz.func151,Tryz.ntmps151
 go_wp2_with fail
 go_loopg [4,11] 0 (fun m s4 s11 wr=>m=0∧s4=.slice none 0 0∧s11=.int .i64 0∧New w wr)
 case atStart=>exact⟨rfl,rfl,rfl,Keep.refl _ _⟩
 case round=>
  obtain⟨rfl,rfl,rfl,kr⟩:=hrel
  go_wp2
  go_ret2
  exact⟨rfl,kr⟩
theorem listed_is(l:List V)(xs:List Value)(d:Nat)(w:World)(hd:w.heap[d]? =some (.cells xs.toArray 20 (0,0)))(hlen:l.length=xs.length)(hmax:xs.length≤1000)(hok:∀j (hj:j<l.length) (hx:j<xs.length),ValOK w l[j] xs[j]):
 Calls Tryz.prog 151 #[.slice (some ⟨d,0,none⟩) xs.length xs.length] w fun e w'=>∃s us,e=.returned (.tuple #[s,.bool true])∧New w w'∧Sims l us∧Dep (fun b=>w.heap.size≤b) w' (fun w=>LM w us s):=by
 obtain⟨n,hn⟩:∃n,n=xs.length:=⟨_,rfl⟩
 rw [←hn]at hmax ⊢
 have N:=Lib.hid hn
 have HD:=Lib.hid hd
 have OK:=Lib.hid hok
 have HL:=Lib.hid hlen
 clear hn hd hok hlen
 go_enter Tryz.func151,Tryz.ntmps151
 go_wp2_with fail
 go_loopg [4,11] n (fun m s4 s11 wr=>∃(j:Nat) (us:List V),j+m=n∧s11=.int .i64 (j:Int)∧us.length=j∧New w wr∧Sims (l.take j) us∧RowV wr w.heap.size s4 us)
 case atStart=>exact⟨0,[],by omega,rfl,rfl,Keep.refl _ _,.nil,RowV.nil⟩
 case round=>
  obtain⟨j,us,hj,rfl,hus,kr,hsim,hrow⟩:=hrel
  have SIM:=Lib.hid hsim
  clear hsim
  have hsh:=hrow.shape
  obtain⟨A,cc,rfl⟩:=hsh
  rw [hus]at hrow ⊢
  rcases gk with _ | m
  ·obtain rfl:j=n:=by omega
   have ho:=hrow.out
   have HO:=Lib.hid ho
   clear ho hrow
   go_wp2
   go_ret2
   refine⟨_,us,rfl,kr,?_,HO.out⟩
   have:=SIM.out
   rwa [N.out,←HL.out,List.take_length]at this
  ·have hjn:j<n:=by omega
   have tj:decide (j<n)=true:=by simpa using hjn
   have hjx:j<xs.length:=by rw [←N.out];exact hjn
   have hjl:j<l.length:=by rw [HL.out];exact hjx
   obtain⟨x,hx⟩:∃x,x=xs[j]:=⟨_,rfl⟩
   have hcx:wr.cell? ⟨d,j,none⟩=some x:=by
    rw [blk_cell (kr.blk HD.out trivial),hx]
    simp [hjx]
   have hcall:=OK.out j hjl hjx wr kr
   rw [←hx]at hcall
   have HC:=Lib.hid hcall
   clear hcall hx
   go_wp2_with fail
   refine HC.out.mono ?_
   rintro e w2 ⟨y,u,rfl,k2,hs2,hv2⟩
   obtain⟨yk,yn,yt,A1,l1,c1,yo,A2,l2,c2,rfl⟩:=hv2.here.parts
   have hrow2:=(((hrow.keep k2 (fun _ _=>trivial)).keep ((Keep.refl (fun _=>True) w2).alloc (.cells #[.int .i64 yk,.int .u64 yn,.string yt,.slice A1 l1 c1,.int .i64 yo,.slice A2 l2 c2] 78)) (fun _ _=>trivial)).keep ((Keep.refl (fun _=>True) _).alloc (.cells #[.int .i64 yk,.int .u64 yn,.string yt,.slice A1 l1 c1,.int .i64 yo,.slice A2 l2 c2] 78)) (fun _ _=>trivial))
   have kA:=((Keep.refl (fun _=>True) w2).alloc (.cells #[.int .i64 yk,.int .u64 yn,.string yt,.slice A1 l1 c1,.int .i64 yo,.slice A2 l2 c2] 78)).alloc (.cells #[.int .i64 yk,.int .u64 yn,.string yt,.slice A1 l1 c1,.int .i64 yo,.slice A2 l2 c2] 78)
   have e1:=kr.size
   have e2:=k2.size
   have e3:=kA.size
   have hfar:∀g,Value.ownBlock (.slice A j cc)=some g→g<wr.heap.size:=fun g hg=>hrow.ownLt hg
   have hfar2:=hrow.far
   obtain⟨g5,c5,w5,hap,hrow5,k5⟩:=hrow2.step (vs:=[u]) (w2.heap.size+1) 0 1 [.int .i64 yk,.int .u64 yn,.string yt,.slice A1 l1 c1,.int .i64 yo,.slice A2 l2 c2]
    (fun q z hq=>by
     have hb:=blk_new (w2.alloc (.cells #[.int .i64 yk,.int .u64 yn,.string yt,.slice A1 l1 c1,.int .i64 yo,.slice A2 l2 c2] 78)) (.cells #[.int .i64 yk,.int .u64 yn,.string yt,.slice A1 l1 c1,.int .i64 yo,.slice A2 l2 c2] 78)
     simp only [World.size_alloc]at hb
     rw [blk_cell hb,Nat.zero_add]
     simpa using hq)
    ((hv2.imp fun _ h=>h.mem).step kA.size (fun i hi _=>kA.block i hi trivial) (fun k hk hb=>⟨by omega,fun e=>by have:=hfar _ e.symm;omega⟩)) (by simp) (by simp;omega) (by omega)
   rw [hus]at hap hrow5
   simp only [List.length_singleton]at hap hrow5
   have HAP:=Lib.hid hap
   have HS2:=Lib.hid hs2
   clear hap hs2 hv2 hrow hrow2
   go_wp2_with (at_builtin;refine wpList_append_eq rfl _ _ 43 rfl _ _ _ _ rfl rfl HAP.out ?_)
   go_roundg m
   case measure=>omega
   case rel=>
    refine⟨j+1,us++[u],by omega,congrArg _ (by omega),by simp [hus],((kr.trans k2).trans kA).then k5 (fun i hi _=>hfar2 i hi),?_,hrow5⟩
    ·rw [←List.take_append_getElem hjl]
     exact SIM.out.app HS2.out
end Go.Proofs.YtfoegolfadhmjaaGreatDoor
namespace Go.Proofs
open Go.Shelf
def Tryz.lays192_ren:Go.Shelf.Ren:=⟨fun | 192=>90 | 190=>146 | 125=>213 | 258=>212 | 128=>242 | 129=>243 | 302=>233 | 303=>234 | 304=>235 | 305=>236 | 306=>237 | 307=>238 | 308=>239 | 309=>240 | 310=>241 | 333=>251 | 329=>252 | 330=>253 | 334=>254 | 335=>255 | 336=>256 | 344=>304 | n=>n,fun | 31=>52 | 0=>0 | 9=>9 | 3=>3 | 46=>139 | 51=>22 | 53=>26 | 4=>4 | 183=>427 | 182=>426 | 131=>432 | 5=>5 | 218=>450 | 222=>146 | 228=>483 | 229=>484 | n=>n,fun | n=>n⟩
theorem Tryz.lays192:Go.Proofs.Lays.n192 Tryz.prog Tryz.lays192_ren:={
 mixed:=by kernel_rfl
 f125:=Tryz.func213.trans (congrArg some (by kernel_rfl))
 f128:=Tryz.func242.trans (congrArg some (by kernel_rfl))
 f129:=Tryz.func243.trans (congrArg some (by kernel_rfl))
 f190:=Tryz.func146.trans (congrArg some (by kernel_rfl))
 f192:=Tryz.func90.trans (congrArg some (by kernel_rfl))
 f258:=Tryz.func212.trans (congrArg some (by kernel_rfl))
 f302:=Tryz.func233.trans (congrArg some (by kernel_rfl))
 f303:=Tryz.func234.trans (congrArg some (by kernel_rfl))
 f304:=Tryz.func235.trans (congrArg some (by kernel_rfl))
 f305:=Tryz.func236.trans (congrArg some (by kernel_rfl))
 f306:=Tryz.func237.trans (congrArg some (by kernel_rfl))
 f307:=Tryz.func238.trans (congrArg some (by kernel_rfl))
 f308:=Tryz.func239.trans (congrArg some (by kernel_rfl))
 f309:=Tryz.func240.trans (congrArg some (by kernel_rfl))
 f310:=Tryz.func241.trans (congrArg some (by kernel_rfl))
 f329:=Tryz.func252.trans (congrArg some (by kernel_rfl))
 f330:=Tryz.func253.trans (congrArg some (by kernel_rfl))
 f333:=Tryz.func251.trans (congrArg some (by kernel_rfl))
 f334:=Tryz.func254.trans (congrArg some (by kernel_rfl))
 f335:=Tryz.func255.trans (congrArg some (by kernel_rfl))
 f336:=Tryz.func256.trans (congrArg some (by kernel_rfl))
 f344:=Tryz.func304.trans (congrArg some (by kernel_rfl))
 t0:=Tryz.underlying0
 a0:=Tryz.isAgg0
 z0:=Tryz.sizeOf0
 v0:=Tryz.zeroValue0
 t3:=Tryz.underlying3
 a3:=Tryz.isAgg3
 z3:=Tryz.sizeOf3
 v3:=Tryz.zeroValue3
 t4:=Tryz.underlying4
 a4:=Tryz.isAgg4
 z4:=Tryz.sizeOf4
 v4:=Tryz.zeroValue4
 t5:=Tryz.underlying5
 a5:=Tryz.isAgg5
 z5:=Tryz.sizeOf5
 v5:=Tryz.zeroValue5
 t9:=Tryz.underlying9
 a9:=Tryz.isAgg9
 z9:=Tryz.sizeOf9
 v9:=Tryz.zeroValue9
 t31:=Tryz.underlying52
 a31:=Tryz.isAgg52
 z31:=Tryz.sizeOf52
 v31:=Tryz.zeroValue52
 t46:=Tryz.underlying139
 a46:=Tryz.isAgg139
 z46:=Tryz.sizeOf139
 v46:=Tryz.zeroValue139
 t51:=Tryz.underlying22
 a51:=Tryz.isAgg22
 z51:=Tryz.sizeOf22
 v51:=Tryz.zeroValue22
 t53:=Tryz.underlying26
 a53:=Tryz.isAgg26
 z53:=Tryz.sizeOf26
 v53:=Tryz.zeroValue26
 t131:=Tryz.underlying432
 a131:=Tryz.isAgg432
 z131:=Tryz.sizeOf432
 v131:=Tryz.zeroValue432
 t182:=Tryz.underlying426
 a182:=Tryz.isAgg426
 z182:=Tryz.sizeOf426
 v182:=Tryz.zeroValue426
 t183:=Tryz.underlying427
 a183:=Tryz.isAgg427
 z183:=Tryz.sizeOf427
 v183:=Tryz.zeroValue427
 t218:=Tryz.underlying450
 a218:=Tryz.isAgg450
 z218:=Tryz.sizeOf450
 v218:=Tryz.zeroValue450
 t222:=Tryz.underlying146
 a222:=Tryz.isAgg146
 z222:=Tryz.sizeOf146
 v222:=Tryz.zeroValue146
 t228:=Tryz.underlying483
 a228:=Tryz.isAgg483
 z228:=Tryz.sizeOf483
 v228:=Tryz.zeroValue483
 t229:=Tryz.underlying484
 a229:=Tryz.isAgg484
 z229:=Tryz.sizeOf484
 v229:=Tryz.zeroValue484 }
open Go.Sort Go.RowKit in
theorem Tryz.sort_Strings(blk off cap:Nat)(ss:List (List UInt8))(w:World)(hH:Holds encStr w blk off ss.toArray)(hblk:blk<w.heap.size)(hsz:ss.length<4611686018427387904):
 Calls Tryz.prog 90 #[.slice (some ⟨blk,off,none⟩) ss.length cap] w fun e w'=>
  e=.returned (.tuple #[])∧∃n os,w'=grow (putRow encStr (Sort.ahead w n) blk off (ss.mergeSort fun x y=>decide (x≤y)).toArray) os:=Any.sort_Strings Tryz.lays192 blk off cap ss w hH hblk hsz
theorem Tryz.sort_Strings_none(p:Option Addr)(cap:Nat)(w:World):Calls Tryz.prog 90 #[.slice p 0 cap] w fun e w'=>e=.returned (.tuple #[])∧w'=w:=Any.sort_Strings_none Tryz.lays192 p cap w
end Go.Proofs
namespace Go.Proofs.YtfoegolfadhmjaaGreatDoor
open Go.RowKit Go.WideShapes Go.Sort
theorem sort_texts(g cap:Nat)(cur:Array Value)(ts:List (List UInt8))(w:World)(hg:w.heap[g]? =some (.cells cur 9 (0,0)))(hcur:∀j (hj:j<ts.length),cur[j]? =some (.string ⟨ts[j].toArray⟩))(hlen:ts.length≤1000):
 Calls Tryz.prog 90 #[.slice (some ⟨g,0,none⟩) ts.length cap] w fun e w'=>e=.returned (.tuple #[])∧Keep (fun k=>k≠g) w w'∧∃(ts':List (List UInt8)) (cur':Array Value),ts'.Perm ts∧w'.heap[g]? =some (.cells cur' 9 (0,0))∧∀j (hj:j<ts'.length),cur'[j]? =some (.string ⟨ts'[j].toArray⟩):=by
 have hlt:=lt_blk hg
 refine(Tryz.sort_Strings g 0 cap ts w (fun j hj=>?_) hlt (by omega)).mono ?_
 ·have hj':j<ts.length:=by simpa using hj
  refine⟨?_,blk_free hg _⟩
  rw [blk_cell hg,Nat.zero_add,hcur j hj']
  simp [encStr,hj']
 ·rintro e w' ⟨rfl,n,os,rfl⟩
  have hl:(ts.mergeSort fun x y=>decide (x≤y)).length=ts.length:=List.length_mergeSort ..
  refine⟨rfl,?_,ts.mergeSort (fun x y=>decide (x≤y)),putCells encStr 0 (ts.mergeSort fun x y=>decide (x≤y)).toArray cur,List.mergeSort_perm ..,?_,fun j hj=>?_⟩
  ·refine⟨rfl,rfl,rfl,by simp [grow,putRow,mapBlock,ahead],fun k hk hne=>?_⟩
   rw [heap_grow_old _ _ (by simpa [putRow,mapBlock,ahead]using hk)]
   simp [putRow,mapBlock,ahead,Array.getElem?_modify,Ne.symm hne]
  ·rw [heap_grow_old _ _ (by simpa [putRow,mapBlock,ahead]using hlt)]
   simp [putRow,mapBlock,ahead,Array.getElem?_modify,hg,onCells]
  ·have hj1:j<ts.length:=by omega
   have hc:=hcur j hj1
   have hcs:j<cur.size:=(Array.getElem?_eq_some_iff.1 hc).1
   simp only [putCells,Array.getElem?_mapIdx,Array.getElem?_eq_getElem hcs,Option.map_some]
   rw [if_pos ⟨by omega,by simp;omega⟩]
   simp [encStr]
   rw [List.getElem?_eq_getElem hj]
   rfl
end Go.Proofs.YtfoegolfadhmjaaGreatDoor
namespace Go.Proofs.YtfoegolfadhmjaaGreatDoor
open Go.RowKit Go.WideShapes
def FormsAt(w:World)(f:Nat)(short:Bool):Prop:=∃st:Nat,w.heap[f]? =some (.cells #[.int .u64 (st:Int),.bool short] 38 (0,0))
theorem pick_bound(X:Int)(h0:0≤X)(h1:X<18446744073709551616)(n:Nat)(hn:1≤n):∃j:Nat,(wrap64 (X/8589934592)).tmod (n:Int)=(j:Int)∧j<n:=by
 have e:wrap64 (X/8589934592)=X/8589934592:=by unfold wrap64;omega
 rw [e,Int.tmod_eq_emod_of_nonneg (by omega)]
 have a:=Int.emod_nonneg (X/8589934592) (show(n:Int)≠0 by omega)
 have b:=Int.emod_lt_of_pos (X/8589934592) (show(0:Int)<n by omega)
 exact⟨((X/8589934592) % (n:Int)).toNat,by omega,by omega⟩
theorem pick_is(f n:Nat)(hn:1≤n)(hn2:n≤1000000)(short:Bool)(w:World)(h:FormsAt w f short):
 Calls Tryz.prog 33 #[.pointer (some ⟨f,0,none⟩),.int .i64 (n:Int)] w fun e w'=>∃j:Nat,e=.returned (.int .i64 (j:Int))∧j<n∧Keep (fun b=>b≠f) w w'∧FormsAt w' f short:=by
 obtain⟨st,hf⟩:=h
 have c0:=(blk_cell hf 0).trans rfl
 have c1:=(blk_cell hf 1).trans rfl
 have f0:=blk_free hf 0
 by_cases hc:short=true∨n≤1
 ·have HF:=Lib.hid hf
  clear hf
  go_enter Tryz.func33,Tryz.ntmps33
  rcases hc with rfl | hc
  ·go_wp2
   go_ret
   exact⟨0,rfl,by omega,Keep.refl _ _,st,HF.out⟩
  ·have tn:decide ((n:Int)≤1)=true:=by simp;omega
   cases short
   all_goals
    go_wp2
    go_ret
    exact⟨0,rfl,by omega,Keep.refl _ _,st,HF.out⟩
 ·have hs:short=false:=by cases short<;>simp at hc ⊢
  subst hs
  have tn:decide ((n:Int)≤1)=false:=by simp at hc ⊢;omega
  have HF:=Lib.hid hf
  clear hf
  go_enter Tryz.func33,Tryz.ntmps33
  go_wp2
  go_ret
  obtain⟨X,hX⟩:∃X,X=IntKind.u64.wrap (IntKind.u64.wrap ((st:Int)*6364136223846793005)+1442695040888963407):=⟨_,rfl⟩
  have hX0:0≤X∧X<18446744073709551616:=by rw [hX,IntKind.wrap_u64];omega
  rw [←hX]
  obtain⟨j,hj,hjn⟩:=pick_bound X hX0.1 hX0.2 n hn
  refine⟨j,by simp [hj],hjn,(Keep.refl _ w).setCell (p:=⟨f,0,none⟩) (.inr (by simp)) _,X.toNat,?_⟩
  have:=blk_set HF.out 0 (.int .u64 X)
  rw [this]
  have e:((X.toNat:Nat):Int)=X:=by omega
  simp [e]
theorem beB_get:∀(s u j:Nat) (hj:j<(beB s u).length),(beB s u)[j]=UInt8.ofNat (u/256 ^ (s-1-j) % 256)
 | 0,u,j,hj=>by simp [beB]at hj
 | s+1,u,0,hj=>by simp [beB]
 | s+1,u,j+1,hj=>by
   have h:j<(beB s u).length:=by simpa [beB]using hj
   simp only [beB,List.getElem_cons_succ]
   rw [beB_get s u j h]
   congr 4
   omega
theorem byte_of(u k:Nat):((UInt8.ofNat (u/256 ^ k % 256)).toNat:Int)=(u:Int)/2 ^ (8*k) % 256:=by
 obtain⟨p,hp⟩:∃p:Nat,p=2 ^ (8*k):=⟨_,rfl⟩
 have e:(256:Nat) ^ k=p:=by rw [hp,show(256:Nat)=2 ^ 8 by rfl,←Nat.pow_mul]
 have h:(UInt8.ofNat (u/256 ^ k % 256)).toNat=u/256 ^ k % 256:=by
  have:=Nat.mod_lt (u/256 ^ k) (show 0<256 by omega)
  generalize u/256 ^ k % 256=x at this
  show(UInt8.ofNat x).toNat=x
  rw [UInt8.toNat_ofNat']
  exact Nat.mod_eq_of_lt this
 have e2:(2:Int) ^ (8*k)=(p:Int):=by rw [hp,Int.natCast_pow];rfl
 rw [h,e,e2,Int.natCast_emod,Int.natCast_ediv]
 rfl
theorem take_succ_get{l:List UInt8}(j:Nat)(hj:j<l.length):l.take (j+1)=l.take j++[l[j]]:=by
 rw [List.take_append_getElem hj]
theorem one_byte(w:World)(x:UInt8):SlB (w.alloc (.cells #[.int .u8 (x.toNat:Int)] 5)) (.slice (some ⟨w.heap.size,0,none⟩) 1 1) [x]:=
 ⟨_,1,rfl,Nat.le_refl _,by omega,fun _=>⟨w.heap.size,0,rfl,_,blk_new _ _,fun j hj=>by
   obtain rfl:j=0:=by simpa using hj
   rfl⟩⟩
theorem big_is(u s:Nat)(hu:u<18446744073709551616)(hs:s≤8)(w:World):
 Calls Tryz.prog 133 #[.int .u64 (u:Int),.int .i64 (s:Int)] w fun e w'=>∃v,e=.returned v∧New w w'∧RowB w' w.heap.size v (beB s u):=by
 go_enter Tryz.func133,Tryz.ntmps133
 go_wp2_with fail
 go_loopg [5,6] s (fun kk s5 s6 wr=>∃j:Nat,j+kk=s∧s6=.int .i64 ((s:Int)-1-j)∧New w wr∧RowB wr w.heap.size s5 ((beB s u).take j))
 case atStart=>exact⟨0,by omega,by simp,Keep.refl _ _,RowB.nil⟩
 case round=>
  obtain⟨j,hj,rfl,kr,hrow⟩:=hrel
  obtain⟨A,c,rfl⟩:=hrow.shape
  have hl:((beB s u).take j).length=j:=by rw [List.length_take,beB_len];omega
  rw [hl]at hrow ⊢
  have HR:=Lib.hid hrow
  have HL:=Lib.hid hl
  clear hrow hl
  rcases gk with _ | kk
  ·obtain rfl:j=s:=by omega
   go_wp2
   go_ret
   refine⟨_,rfl,kr,?_⟩
   have:=HR.out
   rwa [List.take_of_length_le (by rw [beB_len];omega)]at this
  ·have hjs:j<s:=by omega
   have tj:decide ((j:Int)≤(s:Int)-1)=true:=by simp;omega
   have hjl:j<(beB s u).length:=by rw [beB_len];exact hjs
   have hx:=beB_get s u j hjl
   have hb:=byte_of u (s-1-j)
   rw [←hx]at hb
   have kA:=(Keep.refl (fun _=>True) wr).alloc (.cells #[.int .u8 (((beB s u)[j]).toNat:Int)] 5)
   have hsz:=kr.size
   obtain⟨sk',w5,hap,hrow5,k5,_⟩:=(HR.out.keep kA (fun _ _=>trivial)).app (one_byte wr (beB s u)[j]) (by rw [HL.out];simp;omega) (by simp;omega)
   rw [hb]at hap kA k5
   have hfar:=HR.out.far
   have HAP:=Lib.hid hap
   have KA:=Lib.hid kA
   clear hap hx hb kA
   go_wp2_with (at_builtin;refine wpList_append_eq rfl _ _ 27 rfl _ _ _ _ rfl rfl HAP.out ?_)
   go_roundg kk
   case measure=>omega
   case rel=>
    refine⟨j+1,by omega,?_,(kr.trans KA.out).then k5 (fun i hi _=>hfar i hi),?_⟩
    ·congr 1
     omega
    ·rw [take_succ_get j hjl]
     exact hrow5
end Go.Proofs.YtfoegolfadhmjaaGreatDoor
