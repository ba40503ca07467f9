/- Errors' fields, compared. -/
import Derived.Test.YtfoegolfadhmjaaGreatDoorZ41
set_option linter.all false
set_option maxRecDepth 100000
set_option maxHeartbeats 8000000
namespace Go.Proofs.YtfoegolfadhmjaaGreatDoor
open Go.RowKit Go.WideShapes
theorem AbleW.takeN{l:List V}(h:∀v∈l,AbleL [v])(n:Nat):AbleW (l.take n):=by
 induction l generalizing n with
 | nil=>simpa using AbleW.nil
 | cons v l ih=>
   cases n with
   | zero=>simpa using AbleW.nil
   | succ n=>exact .plain (h v (List.mem_cons_self ..)) (ih (fun u hu=>h u (List.mem_cons_of_mem _ hu)) n)
theorem pairsC_of{w:World}(VC:Vld w):PairsC w:=fun m es clock qs h1 h2 h3 h4 h5=>pairs_is w VC m es clock qs h1 h2 h3 h4 h5
theorem cnts_perm2{ps qs:List (V×V)}(h:ps.Perm qs):cnts (flat2 ps)=cnts (flat2 qs):=by
 induction h with
 | nil=>rfl
 | cons x _ ih=>simp only [flat2,cnts,ih]
 | swap x y l=>simp only [flat2,cnts];omega
 | trans _ _ ih1 ih2=>rw [ih1,ih2]
theorem Sims.cnts{l m:List V}(h:Sims l m):Go.Proofs.YtfoegolfadhmjaaGreatDoor.cnts l=Go.Proofs.YtfoegolfadhmjaaGreatDoor.cnts m:=by
 induction h with
 | nil=>rfl
 | leaf hk hk' h0 hs ih=>simp only [Go.Proofs.YtfoegolfadhmjaaGreatDoor.cnts,cnt,ih]
 | list hk hs ih1 ih2=>simp only [Go.Proofs.YtfoegolfadhmjaaGreatDoor.cnts,cnt,ih1,ih2]
 | map hp h1 hk hs ih1 ih2=>simp only [Go.Proofs.YtfoegolfadhmjaaGreatDoor.cnts,cnt,ih2,cnts_perm2 hp,ih1]
 | arr hk h1 hsk hs ih1 ih2=>simp only [Go.Proofs.YtfoegolfadhmjaaGreatDoor.cnts,cnt,ih1,ih2]
end Go.Proofs.YtfoegolfadhmjaaGreatDoor
namespace Go.Proofs.YtfoegolfadhmjaaGreatDoor
open Go.RowKit Go.WideShapes Go.Sort
theorem same_is(c:Nat)(hc:c<18446744073709551616)(fs gs:List (V×V))(hm:fs.length≤1000)(hg:gs.length≤fs.length)(hF:∀j (h:j<fs.length),SameC fs[j] (atN (fs.map (·.1)) j) (atN (gs.map (·.1)) j))(w:World)(s s':Value)(hs:FM w fs s)(hs':FM w gs s'):
 Calls Tryz.prog 10 #[.agg #[.int .u64 (c:Int),s],.agg #[.int .u64 (c:Int),s']] w fun e w'=>e=.returned (.bool true)∧New w w':=by
 obtain⟨A,cc,rfl,-,-⟩:=hs.shape
 obtain⟨A',cc',rfl,-,-⟩:=hs'.shape
 have HIS:=Lib.hid (fun (o od:Int) W (s1 x:Value) (h1:FM W fs s1) h2=>is_is c hc fs hm (gs.map (·.1)) (by simpa using hg) o od hF W s1 x h1 h2)
 have HWH:=Lib.hid (fun W (s1:Value) (h1:FM W gs s1)=>whole_is c hc gs (by omega) W s1 h1 gs.length rfl)
 obtain⟨n,hn⟩:∃n,n=fs.length:=⟨_,rfl⟩
 obtain⟨m,hm2⟩:∃m,m=gs.length:=⟨_,rfl⟩
 rw [←hn]at hs ⊢
 rw [←hm2]at hs' HWH ⊢
 have HS:=Lib.hid hs
 have HS2:=Lib.hid hs'
 have HM2:=Lib.hid hm2
 have k0:=(((Keep.refl (fun _=>True) w).alloc (.cells #[.int .u64 (c:Int),.slice A n cc] 33)).alloc (.cells #[.int .u64 (c:Int),.slice A' m cc'] 33)).drew
 have b1:(((w.alloc (.cells #[.int .u64 (c:Int),.slice A n cc] 33)).alloc (.cells #[.int .u64 (c:Int),.slice A' m cc'] 33)).drew).heap[w.heap.size]? =some (.cells #[.int .u64 (c:Int),.slice A n cc] 33 (0,0)):=blk_alloc (blk_new w (.cells #[.int .u64 (c:Int),.slice A n cc] 33)) (.cells #[.int .u64 (c:Int),.slice A' m cc'] 33)
 have b2:(((w.alloc (.cells #[.int .u64 (c:Int),.slice A n cc] 33)).alloc (.cells #[.int .u64 (c:Int),.slice A' m cc'] 33)).drew).heap[w.heap.size+1]? =some (.cells #[.int .u64 (c:Int),.slice A' m cc'] 33 (0,0)):=by have:=blk_new (w.alloc (.cells #[.int .u64 (c:Int),.slice A n cc] 33)) (.cells #[.int .u64 (c:Int),.slice A' m cc'] 33);simp only [World.size_alloc]at this;exact this
 clear hs hs' hn hm2 hm hg hF
 go_enter Tryz.func10,Tryz.ntmps10
 go_wp2_with fail
 go_region_law
  (first
   | (go_simp;go_at_call 31;refine(HWH.out _ _ (HS2.out.keep (show New w _ by assumption))).mono ?_;rintro e wa ⟨sk,dd,rfl,ka,⟨cells,hown,hmem⟩,-,hdb⟩;have hlm:=LM.own (l:=gs.map (·.1)) (base:=dd+2) (cells:=cells) (by rw [List.length_map,←HM2.out];exact hown) (hmem.keep ka);have hdm:LM wa [.mk 5 c [] [] 0 []] (.slice (some ⟨dd,0,none⟩) 1 1):=⟨_,⟨some ⟨dd,0,none⟩,1,rfl,Nat.le_refl _,by unfold maxLen;omega,rfl,fun _=>⟨dd,0,rfl,fun q u hq=>by rw [blk_cell hdb,Nat.zero_add];simpa using hq⟩⟩,mem_plain wa 5 c [] hc⟩;have hvm:=VM.mk (k:=21) (n:=0) (t:=[]) (o:=0) (by omega) hlm hdm;obtain⟨Ak,ck,rfl⟩:=own_shape hown;have nn:=Keep.trans (show New w _ by assumption) ka;have b1:=ka.blk (b:=w.heap.size) (o:=.cells #[.int .u64 (c:Int),.slice A n cc] 33 (0,0)) (by assumption) trivial;have v0:wa.cell? ⟨w.heap.size,0,none⟩=some (.int .u64 (c:Int)):=(blk_cell b1 0).trans rfl;have v1:wa.cell? ⟨w.heap.size,1,none⟩=some (.slice A n cc):=(blk_cell b1 1).trans rfl)
   | (go_simp;go_at_call 36;refine(HIS.out 0 0 _ _ _ (HS.out.keep nn) hvm).mono ?_;rintro e wz ⟨rfl,kz⟩;have nn:=Keep.trans (show New w _ by assumption) kz))
 all_goals
  go_wp2
  go_ret
  exact⟨rfl,nn⟩
theorem conv_slc{w:World}{v:Value}{l:List UInt8}(h:SlC w v l):(convert 27 9 v).run Tryz.prog w=.ok (.string ⟨l.toArray⟩) w:=by
 obtain⟨A,c,rfl,h1,h2,h3⟩:=h
 by_cases hl:l=[]
 ·subst hl
  refine conv_slb ⟨A,c,rfl,h1,h2,fun h=>absurd rfl h⟩
 ·obtain⟨d,i,rfl,hc⟩:=h3 hl
  exact conv_cells w d i c l hc
theorem left_is(l:List UInt8)(w:World)(v v':Value)(h:SlC w v l)(h':SlC w v' l):
 Calls Tryz.prog 13 #[v,v'] w fun e w'=>e=.returned (.bool true)∧New w w':=by
 have c1:=conv_slc h
 have c2:=conv_slc h'
 obtain⟨A,c,rfl,-⟩:=h
 obtain⟨A',c',rfl,-⟩:=h'
 go_enter Tryz.func13,Tryz.ntmps13
 go_wp2
 go_ret
 exact⟨rfl,Keep.refl _ _⟩
end Go.Proofs.YtfoegolfadhmjaaGreatDoor
namespace Go.Proofs.YtfoegolfadhmjaaGreatDoor
open Go.RowKit Go.WideShapes
theorem sameC_of{f:V×V}{a b:V}(h:FS f.2 a b)(ha:cnt a≤1000000)(hb:cnt b≤1000000)(hd:cnt f.2≤1000000):SameC f a b:=
 fun W a0 a1 a2 a3 a4 a5 b0 b1 b2 b3 b4 b5 hv x y hx hy=>sameField_is f.2 a b h ha hb hd W a0 a1 a2 a3 a4 a5 b0 b1 b2 b3 b4 b5 hv x y hx hy
theorem atN_map{fs:List (V×V)}{j:Nat}(h:j<fs.length):atN (fs.map (·.1)) j=fs[j].1:=by
 unfold atN
 rw [List.getElem?_eq_getElem (by simpa using h),List.getElem_map]
 rfl
theorem cnt_mp(l:List V):cnt (mpF l)≤1+cnts l:=by unfold mpF;split<;>simp [nul,cnt,cnts]
end Go.Proofs.YtfoegolfadhmjaaGreatDoor
