/- Arrays of whatever kind: by the code of their elements. -/
import Derived.Test.YtfoegolfadhmjaaGreatDoorZ01
import Derived.Laws.MakeOwn
import Derived.Deep.RegionLaw
set_option linter.all false
set_option maxRecDepth 100000
set_option maxHeartbeats 40000000
namespace Go.Proofs.YtfoegolfadhmjaaGreatDoor
open Go.RowKit
theorem buf_LenM(g:Nat)(rem:List UInt8)(M:Nat)(hM:M=rem.length)(w:World)(H:Buf w g rem):
 Calls Tryz.prog 95 #[.pointer (some ⟨g,0,none⟩)] w fun e w'=>e=.returned (.int .i64 (M:Int))∧Adv g rem w w':=by
 subst hM
 exact buf_Len g rem w H
theorem Buf.len{w:World}{g:Nat}{rem:List UInt8}(h:Buf w g rem):rem.length≤1099511627776:=by
 obtain⟨d,n,c,i,hg,hdg,hb,hl,hnc,hc,hn⟩:=h
 omega
theorem BytesAt.two{w:World}{d i:Nat}{a b:UInt8}{l:List UInt8}(h:BytesAt w d i (a::b::l)):w.cell? ⟨d,i,none⟩=some (.int .u8 (a.toNat:Int))∧w.cell? ⟨d,i+1,none⟩=some (.int .u8 (b.toNat:Int)):=⟨h.cell 0 (by simp),h.cell 1 (by simp)⟩
theorem be_Uint32'(d i n c:Nat)(p:List UInt8)(w:World)(hp:p.length=4)(hn:4≤n)(hb:BytesAt w d i p):
 Calls Tryz.prog 186 #[.agg #[],.slice (some ⟨d,i,none⟩) n c] w fun e w'=>e=.returned (.int .u32 (Lib.beNat p))∧New w w':=
 be32 d i n c p [] w hp hn (by simpa using hb)
theorem w64{n:Nat}(h:n<4294967296):wrap64 (n:Int)=n:=by unfold wrap64;omega
theorem i64n{n:Nat}(h:n<4294967296):IntKind.i64.wrap (n:Int)=n:=IntWalk.i64_in _ (by omega)
theorem pre4{w:World}{d i:Nat}{p q:List UInt8}(hp:p.length=4)(h:BytesAt w d i (p++q)):BytesAt w d i p∧BytesAt w d (i+4) q:=⟨h.take,hp▸h.drop⟩
theorem readListHeader_8(g:Nat)(s n:UInt8)(body r:List UInt8)(hs:s.toNat=body.length+1)(hn:n.toNat≤body.length)(w:World)(H:Buf w g (192::s::n::(body++r))):
 Calls Tryz.prog 94 #[.pointer (some ⟨g,0,none⟩)] w fun e w'=>e=.returned (.tuple #[.int .i64 n.toNat,.nilIface])∧Adv g (body++r) w w':=by
 have hlen:=H.len
 obtain⟨M,hM⟩:∃M,M=(s::n::(body++r)).length:=⟨_,rfl⟩
 have hM1:s.toNat+1≤M∧M≤1099511627776:=by simp only [List.length_cons,List.length_append]at hM hlen;omega
 obtain⟨hM1,hM2⟩:=hM1
 have hs1:s.toNat<256:=s.toNat_lt
 have hn1:n.toNat<256:=n.toNat_lt
 have hns:n.toNat+1≤s.toNat:=by omega
 have t1:decide ((M:Int)-1<s.toNat)=false:=by simp;omega
 have t2:decide ((65536:Int)<n.toNat)=false:=by simp;omega
 have t3:decide ((s.toNat:Int)<1)=false:=by simp;omega
 have t4:decide ((s.toNat:Int)-1<n.toNat)=false:=by simp;omega
 have ws:wrap64 (s.toNat:Int)=s.toNat:=by unfold wrap64;omega
 have wn:wrap64 (n.toNat:Int)=n.toNat:=by unfold wrap64;omega
 have HM:=Lib.hid hM
 clear hM hs hn hlen
 go_enter Tryz.func94,Tryz.ntmps94
 go_wp2_with fail
 refine(readType_is g _ _ _ H).mono ?_
 rintro e w1 ⟨rfl,h1⟩
 go_wp2_with fail
 refine(buf_LenM g _ M HM.out _ h1.2).mono ?_
 rintro e w2 ⟨rfl,h2⟩
 go_wp2_with fail
 refine(buf_Next g [s,n] (body++r) 2 _ h2.2 rfl).mono ?_
 rintro e w3 ⟨v,rfl,h3,A,c,rfl,hc1,hc2,hA⟩
 obtain⟨d,i,rfl,hd⟩:=hA (by simp)
 obtain⟨b0,b1⟩:=hd.two
 have T:=(h1.trans h2).trans h3
 simp only [List.length_cons,List.length_nil]at hc1 ⊢
 go_wp2
 go_ret2
 exact⟨rfl,T⟩
theorem readListHeader_32(g:Nat)(p q body r:List UInt8)(hp:p.length=4)(hq:q.length=4)(hs:Lib.beNat p=body.length+4)(hn:Lib.beNat q≤body.length)(hmax:Lib.beNat q≤65536)(w:World)(H:Buf w g (208::(p++q++(body++r)))):
 Calls Tryz.prog 94 #[.pointer (some ⟨g,0,none⟩)] w fun e w'=>e=.returned (.tuple #[.int .i64 (Lib.beNat q),.nilIface])∧Adv g (body++r) w w':=by
 have hlen:=H.len
 obtain⟨M,hM⟩:∃M,M=(p++q++(body++r)).length:=⟨_,rfl⟩
 have hM1:Lib.beNat p+4≤M∧M≤1099511627776:=by simp only [List.length_cons,List.length_append]at hM hlen;omega
 obtain⟨hM1,hM2⟩:=hM1
 have hs1:=beNat_lt4 hp
 have hn1:=beNat_lt4 hq
 have hns:Lib.beNat q+4≤Lib.beNat p:=by omega
 have t1:decide ((M:Int)-4<Lib.beNat p)=false:=by simp;omega
 have t2:decide ((65536:Int)<Lib.beNat q)=false:=by simp;omega
 have t3:decide ((Lib.beNat p:Int)<4)=false:=by simp;omega
 have t4:decide ((Lib.beNat p:Int)-4<Lib.beNat q)=false:=by simp;omega
 have ws:wrap64 (Lib.beNat p:Int)=Lib.beNat p:=w64 hs1
 have wn:wrap64 (Lib.beNat q:Int)=Lib.beNat q:=w64 hn1
 have HM:=Lib.hid hM
 have HP:=Lib.hid hp
 have HQ:=Lib.hid hq
 have hpq:(p++q).length=8:=by rw [List.length_append,hp,hq]
 have HPQ:=Lib.hid hpq
 clear hM hs hn hlen hp hq hpq
 go_enter Tryz.func94,Tryz.ntmps94
 go_wp2_with fail
 refine(readType_is g _ _ _ H).mono ?_
 rintro e w1 ⟨rfl,h1⟩
 go_wp2_with fail
 refine(buf_LenM g _ M HM.out _ h1.2).mono ?_
 rintro e w2 ⟨rfl,h2⟩
 go_wp2_with fail
 refine(buf_Next g (p++q) (body++r) 8 _ h2.2 (by rw [HPQ.out];rfl)).mono ?_
 rintro e w3 ⟨v,rfl,h3,A,c,rfl,hc1,hc2,hA⟩
 obtain⟨d,i,rfl,hd⟩:=hA (ne_nil_of HPQ.out (by omega))
 obtain⟨dp,dq⟩:=pre4 HP.out hd
 rw [HPQ.out]at hc1
 have hc4:(4:Int)≤c:=by omega
 have hc5:¬c=4:=by omega
 have hc8:(8:Int)≤c:=by omega
 have is:IntKind.i64.wrap (Lib.beNat p:Int)=Lib.beNat p:=i64n hs1
 have iq:IntKind.i64.wrap (Lib.beNat q:Int)=Lib.beNat q:=i64n hn1
 simp only [HPQ.out]
 have b7:=dq.cell 3 (by rw [HQ.out];omega)
 simp only [Nat.add_assoc]at b7
 have T:=(h1.trans h2).trans h3
 have be_:∀w',New w3 w'→BytesAt w' d i p∧BytesAt w' d (i+4) q:=fun w' k=>by
  have hl:=lt_blk dp.choose_spec.1
  exact⟨dp.of_blk (k.block d hl trivial),dq.of_blk (k.block d hl trivial)⟩
 have BE:=Lib.hid be_
 clear be_ dp dq hd
 go_wp2_with fail
 go_region_held3 (fun _=>True) (first | go_keep | trivial)
  (first | (go_at_call 186;refine(be_Uint32' d i _ c p _ HP.out (by omega) (BE.out _ ((Keep.refl _ w3).drew)).1).mono ?_;rintro e w4 ⟨rfl,k4⟩))
 have k5:=((Keep.refl _ w3).drew).trans k4
 have BE5:Hid (BytesAt w4 d (i+4) q):=Lib.hid (BE.out _ k5).2
 have b7':=k5.cell b7 trivial
 go_wp2_with fail
 go_region_held3 (fun _=>True) (first | go_keep | trivial)
  (first | (go_at_call 186;refine(be_Uint32' d (i+4) _ _ q _ HQ.out (by omega) (BE.out _ (k5.drew)).2).mono ?_;rintro e w6 ⟨rfl,k6⟩))
 go_wp2
 go_ret2
 exact⟨rfl,T.trans (Adv.look T.2 (k5.drew.trans k6))⟩
theorem readArrayHeader_8(g:Nat)(s n:UInt8)(body r:List UInt8)(hs:s.toNat=body.length+1)(hn:n.toNat≤body.length)(w:World)(H:Buf w g (224::s::n::(body++r))):
 Calls Tryz.prog 193 #[.pointer (some ⟨g,0,none⟩)] w fun e w'=>e=.returned (.tuple #[.int .i64 n.toNat,.nilIface])∧Adv g (body++r) w w':=by
 have hlen:=H.len
 obtain⟨M,hM⟩:∃M,M=(s::n::(body++r)).length:=⟨_,rfl⟩
 have hM1:s.toNat+1≤M∧M≤1099511627776:=by simp only [List.length_cons,List.length_append]at hM hlen;omega
 obtain⟨hM1,hM2⟩:=hM1
 have hs1:s.toNat<256:=s.toNat_lt
 have hn1:n.toNat<256:=n.toNat_lt
 have hns:n.toNat+1≤s.toNat:=by omega
 have t1:decide ((M:Int)-1<s.toNat)=false:=by simp;omega
 have t2:decide ((65536:Int)<n.toNat)=false:=by simp;omega
 have t3:decide ((s.toNat:Int)<1)=false:=by simp;omega
 have t4:decide ((s.toNat:Int)-1<n.toNat)=false:=by simp;omega
 have ws:wrap64 (s.toNat:Int)=s.toNat:=by unfold wrap64;omega
 have wn:wrap64 (n.toNat:Int)=n.toNat:=by unfold wrap64;omega
 have HM:=Lib.hid hM
 clear hM hs hn hlen
 go_enter Tryz.func193,Tryz.ntmps193
 go_wp2_with fail
 refine(readType_is g _ _ _ H).mono ?_
 rintro e w1 ⟨rfl,h1⟩
 go_wp2_with fail
 refine(buf_LenM g _ M HM.out _ h1.2).mono ?_
 rintro e w2 ⟨rfl,h2⟩
 go_wp2_with fail
 refine(buf_Next g [s,n] (body++r) 2 _ h2.2 rfl).mono ?_
 rintro e w3 ⟨v,rfl,h3,A,c,rfl,hc1,hc2,hA⟩
 obtain⟨d,i,rfl,hd⟩:=hA (by simp)
 obtain⟨b0,b1⟩:=hd.two
 have T:=(h1.trans h2).trans h3
 simp only [List.length_cons,List.length_nil]at hc1 ⊢
 go_wp2
 go_ret2
 exact⟨rfl,T⟩
theorem readArrayHeader_32(g:Nat)(p q body r:List UInt8)(hp:p.length=4)(hq:q.length=4)(hs:Lib.beNat p=body.length+4)(hn:Lib.beNat q≤body.length)(hmax:Lib.beNat q≤65536)(w:World)(H:Buf w g (240::(p++q++(body++r)))):
 Calls Tryz.prog 193 #[.pointer (some ⟨g,0,none⟩)] w fun e w'=>e=.returned (.tuple #[.int .i64 (Lib.beNat q),.nilIface])∧Adv g (body++r) w w':=by
 have hlen:=H.len
 obtain⟨M,hM⟩:∃M,M=(p++q++(body++r)).length:=⟨_,rfl⟩
 have hM1:Lib.beNat p+4≤M∧M≤1099511627776:=by simp only [List.length_cons,List.length_append]at hM hlen;omega
 obtain⟨hM1,hM2⟩:=hM1
 have hs1:=beNat_lt4 hp
 have hn1:=beNat_lt4 hq
 have hns:Lib.beNat q+4≤Lib.beNat p:=by omega
 have t1:decide ((M:Int)-4<Lib.beNat p)=false:=by simp;omega
 have t2:decide ((65536:Int)<Lib.beNat q)=false:=by simp;omega
 have t3:decide ((Lib.beNat p:Int)<4)=false:=by simp;omega
 have t4:decide ((Lib.beNat p:Int)-4<Lib.beNat q)=false:=by simp;omega
 have ws:wrap64 (Lib.beNat p:Int)=Lib.beNat p:=w64 hs1
 have wn:wrap64 (Lib.beNat q:Int)=Lib.beNat q:=w64 hn1
 have HM:=Lib.hid hM
 have HP:=Lib.hid hp
 have HQ:=Lib.hid hq
 have hpq:(p++q).length=8:=by rw [List.length_append,hp,hq]
 have HPQ:=Lib.hid hpq
 clear hM hs hn hlen hp hq hpq
 go_enter Tryz.func193,Tryz.ntmps193
 go_wp2_with fail
 refine(readType_is g _ _ _ H).mono ?_
 rintro e w1 ⟨rfl,h1⟩
 go_wp2_with fail
 refine(buf_LenM g _ M HM.out _ h1.2).mono ?_
 rintro e w2 ⟨rfl,h2⟩
 go_wp2_with fail
 refine(buf_Next g (p++q) (body++r) 8 _ h2.2 (by rw [HPQ.out];rfl)).mono ?_
 rintro e w3 ⟨v,rfl,h3,A,c,rfl,hc1,hc2,hA⟩
 obtain⟨d,i,rfl,hd⟩:=hA (ne_nil_of HPQ.out (by omega))
 obtain⟨dp,dq⟩:=pre4 HP.out hd
 rw [HPQ.out]at hc1
 have hc4:(4:Int)≤c:=by omega
 have hc5:¬c=4:=by omega
 have hc8:(8:Int)≤c:=by omega
 have is:IntKind.i64.wrap (Lib.beNat p:Int)=Lib.beNat p:=i64n hs1
 have iq:IntKind.i64.wrap (Lib.beNat q:Int)=Lib.beNat q:=i64n hn1
 simp only [HPQ.out]
 have b7:=dq.cell 3 (by rw [HQ.out];omega)
 simp only [Nat.add_assoc]at b7
 have T:=(h1.trans h2).trans h3
 have be_:∀w',New w3 w'→BytesAt w' d i p∧BytesAt w' d (i+4) q:=fun w' k=>by
  have hl:=lt_blk dp.choose_spec.1
  exact⟨dp.of_blk (k.block d hl trivial),dq.of_blk (k.block d hl trivial)⟩
 have BE:=Lib.hid be_
 clear be_ dp dq hd
 go_wp2_with fail
 go_region_held3 (fun _=>True) (first | go_keep | trivial)
  (first | (go_at_call 186;refine(be_Uint32' d i _ c p _ HP.out (by omega) (BE.out _ ((Keep.refl _ w3).drew)).1).mono ?_;rintro e w4 ⟨rfl,k4⟩))
 have k5:=((Keep.refl _ w3).drew).trans k4
 have BE5:Hid (BytesAt w4 d (i+4) q):=Lib.hid (BE.out _ k5).2
 have b7':=k5.cell b7 trivial
 go_wp2_with fail
 go_region_held3 (fun _=>True) (first | go_keep | trivial)
  (first | (go_at_call 186;refine(be_Uint32' d (i+4) _ _ q _ HQ.out (by omega) (BE.out _ (k5.drew)).2).mono ?_;rintro e w6 ⟨rfl,k6⟩))
 go_wp2
 go_ret2
 exact⟨rfl,T.trans (Adv.look T.2 (k5.drew.trans k6))⟩
theorem readMap8Header_is(g:Nat)(s n:UInt8)(body r:List UInt8)(hs:s.toNat=body.length+1)(hn:n.toNat≤body.length)(w:World)(H:Buf w g (s::n::(body++r))):
 Calls Tryz.prog 222 #[.pointer (some ⟨g,0,none⟩)] w fun e w'=>e=.returned (.tuple #[.int .u32 n.toNat,.nilIface])∧Adv g (body++r) w w':=by
 have hlen:=H.len
 obtain⟨M,hM⟩:∃M,M=(s::n::(body++r)).length:=⟨_,rfl⟩
 obtain⟨M2,hM2⟩:∃M,M=(body++r).length:=⟨_,rfl⟩
 have hM1:s.toNat+1≤M∧M≤1099511627776∧n.toNat≤M2∧M2≤1099511627776:=by simp only [List.length_cons,List.length_append]at hM hM2 hlen;omega
 obtain⟨hM1,hM3,hM4,hM5⟩:=hM1
 have hs1:s.toNat<256:=s.toNat_lt
 have hn1:n.toNat<256:=n.toNat_lt
 have t1:decide ((M:Int)-1<s.toNat)=false:=by simp;omega
 have t2:decide ((65536:Int)<n.toNat)=false:=by simp;omega
 have t3:decide ((M2:Int)<n.toNat)=false:=by simp;omega
 have ws:wrap64 (s.toNat:Int)=s.toNat:=by unfold wrap64;omega
 have wn:wrap64 (n.toNat:Int)=n.toNat:=by unfold wrap64;omega
 have un:IntKind.u32.wrap (n.toNat:Int)=n.toNat:=by rw [IntKind.wrap_u32];omega
 have HM:=Lib.hid hM
 have HM2:=Lib.hid hM2
 clear hM hs hn hlen hM2
 go_enter Tryz.func222,Tryz.ntmps222
 go_wp2_with fail
 refine(buf_LenM g _ M HM.out _ H).mono ?_
 rintro e w2 ⟨rfl,h2⟩
 go_wp2_with fail
 refine(buf_Next g [s,n] (body++r) 2 _ h2.2 rfl).mono ?_
 rintro e w3 ⟨v,rfl,h3,A,c,rfl,hc1,hc2,hA⟩
 obtain⟨d,i,rfl,hd⟩:=hA (by simp)
 obtain⟨b0,b1⟩:=hd.two
 have T:=h2.trans h3
 simp only [List.length_cons,List.length_nil]at hc1 ⊢
 go_wp2_with fail
 refine(buf_LenM g _ M2 HM2.out _ h3.2).mono ?_
 rintro e w4 ⟨rfl,h4⟩
 go_wp2
 go_ret2
 exact⟨rfl,T.trans h4⟩
theorem readMap32Header_is(g:Nat)(p q body r:List UInt8)(hp:p.length=4)(hq:q.length=4)(hs:Lib.beNat p=body.length+4)(hn:Lib.beNat q≤body.length)(hmax:Lib.beNat q≤65536)(w:World)(H:Buf w g (p++q++(body++r))):
 Calls Tryz.prog 223 #[.pointer (some ⟨g,0,none⟩)] w fun e w'=>e=.returned (.tuple #[.int .u32 (Lib.beNat q),.nilIface])∧Adv g (body++r) w w':=by
 have hlen:=H.len
 obtain⟨M,hM⟩:∃M,M=(p++q++(body++r)).length:=⟨_,rfl⟩
 obtain⟨M2,hM2⟩:∃M,M=(body++r).length:=⟨_,rfl⟩
 have hM1:Lib.beNat p+4≤M∧M≤1099511627776∧Lib.beNat q≤M2∧M2≤1099511627776:=by simp only [List.length_cons,List.length_append]at hM hM2 hlen;omega
 obtain⟨hM1,hM3,hM4,hM5⟩:=hM1
 have hs1:=beNat_lt4 hp
 have hn1:=beNat_lt4 hq
 have t1:decide ((M:Int)-4<Lib.beNat p)=false:=by simp;omega
 have t2:decide ((65536:Int)<Lib.beNat q)=false:=by simp;omega
 have t3:decide ((M2:Int)<Lib.beNat q)=false:=by simp;omega
 have is:IntKind.i64.wrap (Lib.beNat p:Int)=Lib.beNat p:=i64n hs1
 have iq:IntKind.i64.wrap (Lib.beNat q:Int)=Lib.beNat q:=i64n hn1
 have ws:wrap64 (Lib.beNat p:Int)=Lib.beNat p:=w64 hs1
 have wn:wrap64 (Lib.beNat q:Int)=Lib.beNat q:=w64 hn1
 have HM:=Lib.hid hM
 have HM2:=Lib.hid hM2
 have HP:=Lib.hid hp
 have HQ:=Lib.hid hq
 have hpq:(p++q).length=8:=by rw [List.length_append,hp,hq]
 have HPQ:=Lib.hid hpq
 clear hM hs hn hlen hp hq hpq hM2
 go_enter Tryz.func223,Tryz.ntmps223
 go_wp2_with fail
 refine(buf_LenM g _ M HM.out _ H).mono ?_
 rintro e w2 ⟨rfl,h2⟩
 go_wp2_with fail
 refine(buf_Next g (p++q) (body++r) 8 _ h2.2 (by rw [HPQ.out];rfl)).mono ?_
 rintro e w3 ⟨v,rfl,h3,A,c,rfl,hc1,hc2,hA⟩
 obtain⟨d,i,rfl,hd⟩:=hA (ne_nil_of HPQ.out (by omega))
 obtain⟨dp,dq⟩:=pre4 HP.out hd
 rw [HPQ.out]at hc1
 have hc4:(4:Int)≤c:=by omega
 have hc5:¬c=4:=by omega
 have hc8:(8:Int)≤c:=by omega
 simp only [HPQ.out]
 have b7:=dq.cell 3 (by rw [HQ.out];omega)
 simp only [Nat.add_assoc]at b7
 have T:=h2.trans h3
 have be_:∀w',New w3 w'→BytesAt w' d i p∧BytesAt w' d (i+4) q:=fun w' k=>by
  have hl:=lt_blk dp.choose_spec.1
  exact⟨dp.of_blk (k.block d hl trivial),dq.of_blk (k.block d hl trivial)⟩
 have BE:=Lib.hid be_
 clear be_ dp dq hd
 go_wp2_with fail
 go_region_held3 (fun _=>True) (first | go_keep | trivial)
  (first | (go_at_call 186;refine(be_Uint32' d i _ c p _ HP.out (by omega) (BE.out _ ((Keep.refl _ w3).drew)).1).mono ?_;rintro e w4 ⟨rfl,k4⟩))
 have k5:=((Keep.refl _ w3).drew).trans k4
 have b7':=k5.cell b7 trivial
 go_wp2_with fail
 go_region_held3 (fun _=>True) (first | go_keep | trivial)
  (first | (go_at_call 186;refine(be_Uint32' d (i+4) _ _ q _ HQ.out (by omega) (BE.out _ (k5.drew)).2).mono ?_;rintro e w6 ⟨rfl,k6⟩))
 have h6:=Adv.look T.2 (k5.drew.trans k6)
 go_wp2_with fail
 refine(buf_LenM g _ M2 HM2.out _ h6.2).mono ?_
 rintro e w7 ⟨rfl,h7⟩
 go_wp2
 go_ret2
 exact⟨rfl,(T.trans h6).trans h7⟩
theorem readMapHeader_8(g:Nat)(s n:UInt8)(body r:List UInt8)(hs:s.toNat=body.length+1)(hn:n.toNat≤body.length)(w:World)(H:Buf w g (193::s::n::(body++r))):
 Calls Tryz.prog 200 #[.pointer (some ⟨g,0,none⟩)] w fun e w'=>e=.returned (.tuple #[.int .u32 n.toNat,.nilIface])∧Adv g (body++r) w w':=by
 go_enter Tryz.func200,Tryz.ntmps200
 go_wp2_with fail
 refine(peekType_is g _ _ _ H).mono ?_
 rintro e w1 ⟨rfl,h1⟩
 go_wp2_with fail
 refine(buf_ReadByte g _ _ _ (H.new h1)).mono ?_
 rintro e w2 ⟨rfl,h2⟩
 go_wp2_with fail
 refine(readMap8Header_is g s n body r hs hn _ h2.2).mono ?_
 rintro e w3 ⟨rfl,h3⟩
 go_wp2
 go_ret2
 exact⟨rfl,((Adv.look H h1).trans h2).trans h3⟩
theorem readMapHeader_32(g:Nat)(p q body r:List UInt8)(hp:p.length=4)(hq:q.length=4)(hs:Lib.beNat p=body.length+4)(hn:Lib.beNat q≤body.length)(hmax:Lib.beNat q≤65536)(w:World)(H:Buf w g (209::(p++q++(body++r)))):
 Calls Tryz.prog 200 #[.pointer (some ⟨g,0,none⟩)] w fun e w'=>e=.returned (.tuple #[.int .u32 (Lib.beNat q),.nilIface])∧Adv g (body++r) w w':=by
 go_enter Tryz.func200,Tryz.ntmps200
 go_wp2_with fail
 refine(peekType_is g _ _ _ H).mono ?_
 rintro e w1 ⟨rfl,h1⟩
 go_wp2_with fail
 refine(buf_ReadByte g _ _ _ (H.new h1)).mono ?_
 rintro e w2 ⟨rfl,h2⟩
 go_wp2_with fail
 refine(readMap32Header_is g p q body r hp hq hs hn hmax _ h2.2).mono ?_
 rintro e w3 ⟨rfl,h3⟩
 go_wp2
 go_ret2
 exact⟨rfl,((Adv.look H h1).trans h2).trans h3⟩
def Hd(k8 k32:UInt8)(n:Nat)(body h:List UInt8):Prop:=
 (∃s c:UInt8,h=[k8,s,c]∧s.toNat=body.length+1∧c.toNat=n)∨
 (∃p q:List UInt8,h=k32::(p++q)∧p.length=4∧q.length=4∧Lib.beNat p=body.length+4∧Lib.beNat q=n)
theorem listHead(g n:Nat)(body r h:List UInt8)(Hh:Hd 192 208 n body h)(hn:n≤body.length)(hmax:n≤65536)(w:World)(H:Buf w g (h++(body++r))):
 Calls Tryz.prog 94 #[.pointer (some ⟨g,0,none⟩)] w fun e w'=>e=.returned (.tuple #[.int .i64 n,.nilIface])∧Adv g (body++r) w w':=by
 rcases Hh with⟨s,c,rfl,hs,rfl⟩ | ⟨p,q,rfl,hp,hq,hs,rfl⟩
 ·exact readListHeader_8 g s c body r hs hn w H
 ·exact readListHeader_32 g p q body r hp hq hs hn hmax w H
theorem arrayHead(g n:Nat)(body r h:List UInt8)(Hh:Hd 224 240 n body h)(hn:n≤body.length)(hmax:n≤65536)(w:World)(H:Buf w g (h++(body++r))):
 Calls Tryz.prog 193 #[.pointer (some ⟨g,0,none⟩)] w fun e w'=>e=.returned (.tuple #[.int .i64 n,.nilIface])∧Adv g (body++r) w w':=by
 rcases Hh with⟨s,c,rfl,hs,rfl⟩ | ⟨p,q,rfl,hp,hq,hs,rfl⟩
 ·exact readArrayHeader_8 g s c body r hs hn w H
 ·exact readArrayHeader_32 g p q body r hp hq hs hn hmax w H
theorem mapHead(g n:Nat)(body r h:List UInt8)(Hh:Hd 193 209 n body h)(hn:n≤body.length)(hmax:n≤65536)(w:World)(H:Buf w g (h++(body++r))):
 Calls Tryz.prog 200 #[.pointer (some ⟨g,0,none⟩)] w fun e w'=>e=.returned (.tuple #[.int .u32 n,.nilIface])∧Adv g (body++r) w w':=by
 rcases Hh with⟨s,c,rfl,hs,rfl⟩ | ⟨p,q,rfl,hp,hq,hs,rfl⟩
 ·exact readMapHeader_8 g s c body r hs hn w H
 ·exact readMapHeader_32 g p q body r hp hq hs hn hmax w H
theorem flat_len{s:Nat}:∀{xs:List (List UInt8)},(∀x∈xs,x.length=s)→xs.flatten.length=s*xs.length
 | [],_=>by simp
 | x::xs,h=>by
   rw [List.flatten_cons,List.length_append,flat_len (fun y hy=>h y (List.mem_cons_of_mem _ hy)),h x (List.mem_cons_self ..),List.length_cons,Nat.mul_succ]
   omega
theorem chunk_at{w:World}{d s:Nat}:∀{xs:List (List UInt8)} {i:Nat},(∀x∈xs,x.length=s)→BytesAt w d i xs.flatten→∀(j:Nat) (hj:j<xs.length),BytesAt w d (i+s*j) xs[j]
 | [],_,_,_,j,hj=>absurd hj (by simp)
 | x::xs,i,hs,h,0,_=>by simpa using BytesAt.take (p:=x) (by simpa using h)
 | x::xs,i,hs,h,j+1,hj=>by
   have h2:=BytesAt.drop (p:=x) (r:=xs.flatten) (by simpa using h)
   rw [hs x (List.mem_cons_self ..)]at h2
   have:=chunk_at (fun y hy=>hs y (List.mem_cons_of_mem _ hy)) h2 j (by simpa using hj)
   rw [Nat.mul_succ,show i+(s*j+s)=i+s+s*j by omega]
   simpa using this
theorem Keep.free{ok:Nat→Prop}{w w1:World}(h:Keep ok w w1){a:Addr}(hlt:a.block<w.heap.size)(ho:ok a.block):w1.frozen? a=w.frozen? a:=by
 simp only [World.frozen?,h.block _ hlt ho]
theorem be_Uint16'(d i n c:Nat)(p:List UInt8)(w:World)(hp:p.length=2)(hn:2≤n)(hb:BytesAt w d i p):
 Calls Tryz.prog 194 #[.agg #[],.slice (some ⟨d,i,none⟩) n c] w fun e w'=>e=.returned (.int .u16 (Lib.beNat p))∧New w w':=by
 obtain⟨a,b,rfl⟩:=two_of hp
 exact be_Uint16 d i n c a b w hn hb
theorem be_Uint64'(d i n c:Nat)(p:List UInt8)(w:World)(hp:p.length=8)(hn:8≤n)(hb:BytesAt w d i p):
 Calls Tryz.prog 195 #[.agg #[],.slice (some ⟨d,i,none⟩) n c] w fun e w'=>e=.returned (.int .u64 (Lib.beNat p))∧New w w':=by
 obtain⟨a,b,c',e,f,g,h,k,rfl⟩:=eight_of hp
 exact be_Uint64 d i n c a b c' e f g h k w hn hb
theorem run_store_float(P:Program)(w:World)(a:Addr)(m:Mode)(k:FloatKind)(n:Nat):(store a (.float k n) m).run P w=stored P w a (.float k n) m:=run_store P w a _ m rfl
attribute [go_sem] run_store_float
def SlX(w:World)(et:TypeId)(sz:Nat)(v:Value)(cells:List Value):Prop:=
 ∃d n,v=.slice (some ⟨d,0,none⟩) n n∧cells.length=n*sz∧w.heap[d]? =some (.cells cells.toArray et (0,0))
def ArrOut(g:Nat)(p:Addr)(r:List UInt8)(et:TypeId)(sz:Nat)(cells:List Value)(w w':World):Prop:=
 ∃sl w1,w'=w1.setCell p sl∧Adv g r w w1∧Dep (fun k=>w.heap.size≤k) w1 (fun w=>SlX w et sz sl cells)
section
variable {α:Type}
def Fill(w:World)(B:Nat)(et:TypeId)(xs:List α)(F:α→Value)(k:Nat):Prop:=
 ∃cs,w.heap[B]? =some (.cells cs et (0,0))∧cs.size=xs.length∧∀j (hj:j<xs.length),j<k→cs[j]? =some (F xs[j])
theorem Fill.zero{w:World}{B:Nat}{et:TypeId}{xs:List α}{F:α→Value}{cs:Array Value}(h:w.heap[B]? =some (.cells cs et (0,0)))(hs:cs.size=xs.length):Fill w B et xs F 0:=⟨cs,h,hs,fun _ _ h=>absurd h (by omega)⟩
theorem Fill.keep{ok:Nat→Prop}{w w':World}{B:Nat}{et:TypeId}{xs:List α}{F:α→Value}{k:Nat}(h:Fill w B et xs F k)(kp:Keep ok w w')(ho:ok B):Fill w' B et xs F k:=by
 obtain⟨cs,hb,hr⟩:=h
 exact⟨cs,kp.blk hb ho,hr⟩
theorem Fill.step{w:World}{B:Nat}{et:TypeId}{xs:List α}{F:α→Value}{k:Nat}(h:Fill w B et xs F k)(hk:k<xs.length):Fill (w.setCell ⟨B,k,none⟩ (F xs[k])) B et xs F (k+1):=by
 obtain⟨cs,hb,hs,hr⟩:=h
 refine⟨_,blk_set hb k _,by simpa using hs,fun j hj hjk=>?_⟩
 rw [Array.getElem?_setIfInBounds]
 by_cases e:k=j
 ·subst e;simp [hs,hk]
 ·rw [if_neg e];exact hr j hj (by omega)
theorem Fill.all{w:World}{B:Nat}{et:TypeId}{xs:List α}{F:α→Value}(h:Fill w B et xs F xs.length):w.heap[B]? =some (.cells (xs.map F).toArray et (0,0)):=by
 obtain⟨cs,hb,hs,hr⟩:=h
 rw [hb]
 congr 2
 apply Array.ext
 ·simp [hs]
 ·intro j h1 h2
  have:=hr j (by omega) (by omega)
  rw [Array.getElem?_eq_getElem h1]at this
  simpa using Option.some.inj this
theorem Fill.free{w:World}{B:Nat}{et:TypeId}{xs:List α}{F:α→Value}{k:Nat}(h:Fill w B et xs F k)(i:Nat):w.frozen? ⟨B,i,none⟩=false:=by
 obtain⟨cs,hb,_⟩:=h
 exact blk_free hb i
theorem Fill.cell{w:World}{B:Nat}{et:TypeId}{xs:List α}{F:α→Value}{k:Nat}(h:Fill w B et xs F k)(i:Nat)(hi:i<xs.length):∃u,w.cell? ⟨B,i,none⟩=some u:=by
 obtain⟨cs,hb,hs,_⟩:=h
 rw [blk_cell hb]
 exact⟨cs[i],Array.getElem?_eq_getElem (by omega)⟩
theorem Fill.out{w:World}{B:Nat}{et:TypeId}{xs:List α}{F:α→Value}{ok:Nat→Prop}(h:Fill w B et xs F xs.length)(ho:ok B):Dep ok w (fun w=>SlX w et 1 (.slice (some ⟨B,0,none⟩) xs.length xs.length) (xs.map F)):=
 (Dep.blk h.all ho).imp fun _ h'=>⟨B,xs.length,rfl,by simp,h'⟩
end
theorem info117:(Tryz.prog.info? 117).map (fun i=>(i.zero,i.size,i.bytes))=some (some (.int .u16 0),1,2):=by kernel_rfl
theorem make_one(st et:TypeId)(z:Value)(b:Nat)(hu:Tryz.prog.underlying st=some (.slice et))(hi:(Tryz.prog.info? et).map (fun i=>(i.zero,i.size,i.bytes))=some (some z,1,b))(hz:z.cells=#[z])(hb:b≤4096)(n:Nat)(hn:n≤65536)(u:World):
 (Instr.makeSlice st (.int .i64 (n:Int)) (.int .i64 (n:Int))).run Tryz.prog u=.ok (.slice (some ⟨u.heap.size,0,none⟩) n n) (u.alloc (.cells (madeCells #[z] n) et)):=by
 obtain⟨i0,hi,hz0,hz1,hz2⟩:=info_parts hi
 have hbn:((b*n:Nat):Int)≤((4096*65536:Nat):Int):=Int.ofNat_le.2 (Nat.mul_le_mul hb hn)
 rw [Int.natCast_mul]at hbn
 have h:=run_make (P:=Tryz.prog) u st et i0 z hu hi hz0 .i64 .i64 n n (by omega) (Int.le_refl _) (by rw [hz2];omega) (by omega)
 rw [hz,hz1]at h
 simpa using h
theorem arrayUint16_is(g:Nat)(p:Addr)(hpg:p.block≠g)(xs:List (List UInt8))(hx:∀x∈xs,x.length=2)(hne:0<xs.length)(hmax:xs.length≤65536)(r h:List UInt8)(Hh:Hd 224 240 xs.length (96::xs.flatten) h)
 (w:World) (hc:w.cell? p=some (.slice none 0 0)) (hf:w.frozen? p=false) (B:Buf w g (h++(96::xs.flatten++r))):
 Calls Tryz.prog 112 #[.pointer (some p),.pointer (some ⟨g,0,none⟩)] w fun e w'=>e=.returned .nilIface∧ArrOut g p r 117 1 (xs.map fun x=>.int .u16 (Lib.beNat x)) w w':=by
 have hfl:=flat_len hx
 have hm:=make_one 51 117 _ _ Tryz.underlying51 info117 rfl (by omega) xs.length hmax
 obtain⟨n,hn⟩:∃n,n=xs.length:=⟨_,rfl⟩
 rw [←hn]at hm hne hmax
 have t1:decide ((0:Int)<n)=true:=by simp;omega
 have w1:IntKind.i64.wrap ((n:Int)*2)=n*2:=IntWalk.i64_in _ (by omega)
 have N:=Lib.hid hn
 have FL:=Lib.hid hfl
 have HX:=Lib.hid hx
 have HP:=Lib.hid hpg
 clear hn hfl hx hpg
 go_enter Tryz.func112,Tryz.ntmps112
 go_wp2_with fail
 refine(arrayHead g _ _ r h Hh (by rw [List.length_cons,FL.out];omega) (by rw [←N.out];omega) _ B).mono ?_
 rintro e w1 ⟨rfl,h1⟩
 rw [←N.out]
 have hc1':=h1.1.cell hc HP.out
 go_wp2_with fail
 refine(readType_is g _ _ _ h1.2).mono ?_
 rintro e w2 ⟨rfl,h2⟩
 go_wp2_with fail
 refine(buf_Next g xs.flatten r _ _ h2.2 (by rw [FL.out,←N.out];omega)).mono ?_
 rintro e w3 ⟨v,rfl,h3,hv⟩
 have T:=(h1.trans h2).trans h3
 have hlt:=cell_lt hc
 have hc3:=T.1.cell hc HP.out
 obtain⟨A,c,rfl,hc1,hc2,hA⟩:=hv
 obtain⟨d,i,rfl,hd⟩:=hA (ne_nil_of (n:=2*n) (by rw [FL.out,N.out]) (by omega))
 have hl:xs.flatten.length=2*n:=by rw [FL.out,N.out]
 rw [hl]at hc1
 simp only [hl]
 have ck:∀(j:Nat) (hj:j<xs.length),BytesAt w3 d (i+2*j) xs[j]:=chunk_at HX.out hd
 have CK:=Lib.hid ck
 have hdl:=lt_blk hd.choose_spec.1
 have fr3:w3.frozen? p=false:=(T.1.free hlt HP.out).trans hf
 clear hd ck hl
 have hcap:(2*n:Int)≤c:=by omega
 go_wp2_with fail
 go_loopg [11,57] n (fun k s11 s57 wr=>∃j:Nat,j+k=n∧s11=.int .i64 (2*(j:Int))∧s57=.int .i64 (j:Int)∧New w3 wr∧Fill wr w3.heap.size 117 xs (fun x=>.int .u16 (Lib.beNat x)) j)
 case atStart=>exact⟨0,by omega,rfl,rfl,(Keep.refl _ _).alloc _,Fill.zero (blk_new _ _) (by rw [size_madeCells,N.out])⟩
 case round=>
  obtain⟨j,hj,rfl,rfl,kr,fl⟩:=hrel
  cases gk with
  | zero=>
    obtain rfl:j=n:=by omega
    have hcr:=kr.cell hc3 trivial
    have hfr:wr.frozen? p=false:=(kr.free (cell_lt hc3) trivial).trans fr3
    go_wp2
    go_ret
    refine⟨rfl,_,wr,rfl,⟨T.1.trans (kr.keep _),T.2.new kr⟩,?_⟩
    have hw3:=T.1.size
    rw [N.out]at fl ⊢
    exact fl.out hw3
  | succ k=>
    have hjn:j<n:=by omega
    have tj:decide ((j:Int)<n)=true:=by simpa using hjn
    have e1:(0:Int)≤2*(j:Int):=by omega
    have e2:j≤n:=by omega
    have e3:¬c=2*j:=by omega
    have e4:(j:Int)<n:=by omega
    have tn:(2*(j:Int)).toNat=2*j:=by omega
    have e5:2≤2*n-2*j:=by omega
    have fz:=fl.free j
    obtain⟨u0,hu0⟩:=fl.cell j (by rw [←N.out];exact hjn)
    have hjx:j<xs.length:=by rw [←N.out];exact hjn
    obtain⟨y,hy⟩:∃y,y=xs[j]'hjx:=⟨_,rfl⟩
    have J:=CK.out j hjx
    have J2:=HX.out _ (List.getElem_mem hjx)
    rw [←hy]at J J2
    have HY:=Lib.hid hy
    clear hy
    have J3:=J.of_blk ((kr.drew).block d hdl trivial)
    go_wp2_with fail
    go_region_held3 (fun _=>True) (first | go_keep | trivial)
     (first | (go_at_call 194;refine(be_Uint16' d (i+2*j) (2*n-2*j) (c-2*j) y _ J2 e5 J3).mono ?_;rintro e w4 ⟨rfl,k4⟩;have fz4:=((kr.drew).trans k4);have fl4:=fl.keep (((Keep.refl _ wr).drew).trans k4) trivial;have fz5:=fl4.free j;obtain⟨u1,hu1⟩:=fl4.cell j (by rw [←N.out];exact hjn)))
    have st:=fl4.step hjx
    rw [←HY.out]at st
    go_wp2
    go_roundg k
    case measure=>omega
    case rel=>
     refine⟨j+1,by omega,congrArg _ (by omega),congrArg _ (by omega),(fz4.setCell (.inl (Nat.le_refl _)) _),st⟩
theorem info195:(Tryz.prog.info? 195).map (fun i=>(i.zero,i.size,i.bytes))=some (some (.int .i16 0),1,2):=by kernel_rfl
theorem arrayInt16_is(g:Nat)(p:Addr)(hpg:p.block≠g)(xs:List (List UInt8))(hx:∀x∈xs,x.length=2)(hne:0<xs.length)(hmax:xs.length≤65536)(r h:List UInt8)(Hh:Hd 224 240 xs.length (97::xs.flatten) h)
 (w:World) (hc:w.cell? p=some (.slice none 0 0)) (hf:w.frozen? p=false) (B:Buf w g (h++(97::xs.flatten++r))):
 Calls Tryz.prog 113 #[.pointer (some p),.pointer (some ⟨g,0,none⟩)] w fun e w'=>e=.returned .nilIface∧ArrOut g p r 195 1 (xs.map fun x=>.int .i16 (IntKind.i16.wrap (Lib.beNat x))) w w':=by
 have hfl:=flat_len hx
 have hm:=make_one 329 195 _ _ Tryz.underlying329 info195 rfl (by omega) xs.length hmax
 obtain⟨n,hn⟩:∃n,n=xs.length:=⟨_,rfl⟩
 rw [←hn]at hm hne hmax
 have t1:decide ((0:Int)<n)=true:=by simp;omega
 have w1:IntKind.i64.wrap ((n:Int)*2)=n*2:=IntWalk.i64_in _ (by omega)
 have N:=Lib.hid hn
 have FL:=Lib.hid hfl
 have HX:=Lib.hid hx
 have HP:=Lib.hid hpg
 clear hn hfl hx hpg
 go_enter Tryz.func113,Tryz.ntmps113
 go_wp2_with fail
 refine(arrayHead g _ _ r h Hh (by rw [List.length_cons,FL.out];omega) (by rw [←N.out];omega) _ B).mono ?_
 rintro e w1 ⟨rfl,h1⟩
 rw [←N.out]
 have hc1':=h1.1.cell hc HP.out
 go_wp2_with fail
 refine(readType_is g _ _ _ h1.2).mono ?_
 rintro e w2 ⟨rfl,h2⟩
 go_wp2_with fail
 refine(buf_Next g xs.flatten r _ _ h2.2 (by rw [FL.out,←N.out];omega)).mono ?_
 rintro e w3 ⟨v,rfl,h3,hv⟩
 have T:=(h1.trans h2).trans h3
 have hlt:=cell_lt hc
 have hc3:=T.1.cell hc HP.out
 obtain⟨A,c,rfl,hc1,hc2,hA⟩:=hv
 obtain⟨d,i,rfl,hd⟩:=hA (ne_nil_of (n:=2*n) (by rw [FL.out,N.out]) (by omega))
 have hl:xs.flatten.length=2*n:=by rw [FL.out,N.out]
 rw [hl]at hc1
 simp only [hl]
 have ck:∀(j:Nat) (hj:j<xs.length),BytesAt w3 d (i+2*j) xs[j]:=chunk_at HX.out hd
 have CK:=Lib.hid ck
 have hdl:=lt_blk hd.choose_spec.1
 have fr3:w3.frozen? p=false:=(T.1.free hlt HP.out).trans hf
 clear hd ck hl
 have hcap:(2*n:Int)≤c:=by omega
 go_wp2_with fail
 go_loopg [11,57] n (fun k s11 s57 wr=>∃j:Nat,j+k=n∧s11=.int .i64 (2*(j:Int))∧s57=.int .i64 (j:Int)∧New w3 wr∧Fill wr w3.heap.size 195 xs (fun x=>.int .i16 (IntKind.i16.wrap (Lib.beNat x))) j)
 case atStart=>exact⟨0,by omega,rfl,rfl,(Keep.refl _ _).alloc _,Fill.zero (blk_new _ _) (by rw [size_madeCells,N.out])⟩
 case round=>
  obtain⟨j,hj,rfl,rfl,kr,fl⟩:=hrel
  cases gk with
  | zero=>
    obtain rfl:j=n:=by omega
    have hcr:=kr.cell hc3 trivial
    have hfr:wr.frozen? p=false:=(kr.free (cell_lt hc3) trivial).trans fr3
    go_wp2
    go_ret
    refine⟨rfl,_,wr,rfl,⟨T.1.trans (kr.keep _),T.2.new kr⟩,?_⟩
    have hw3:=T.1.size
    rw [N.out]at fl ⊢
    exact fl.out hw3
  | succ k=>
    have hjn:j<n:=by omega
    have tj:decide ((j:Int)<n)=true:=by simpa using hjn
    have e1:(0:Int)≤2*(j:Int):=by omega
    have e2:j≤n:=by omega
    have e3:¬c=2*j:=by omega
    have e4:(j:Int)<n:=by omega
    have tn:(2*(j:Int)).toNat=2*j:=by omega
    have e5:2≤2*n-2*j:=by omega
    have e6:2*(j:Int)+2≤c:=by omega
    have e7:2*(j:Int)+2≤2*n:=by omega
    have tn2:(2*(j:Int)+2).toNat=2*j+2:=by omega
    have e8:2≤2*j+2-2*j:=by omega
    have e9:2*(j:Int)≤2*(j:Int)+2:=by omega
    have wj:IntKind.i64.wrap (2*(j:Int)+2)=2*(j:Int)+2:=IntWalk.i64_in _ (by omega)
    have fz:=fl.free j
    obtain⟨u0,hu0⟩:=fl.cell j (by rw [←N.out];exact hjn)
    have hjx:j<xs.length:=by rw [←N.out];exact hjn
    obtain⟨y,hy⟩:∃y,y=xs[j]'hjx:=⟨_,rfl⟩
    have J:=CK.out j hjx
    have J2:=HX.out _ (List.getElem_mem hjx)
    rw [←hy]at J J2
    have HY:=Lib.hid hy
    clear hy
    have J3:=J.of_blk ((kr.drew).block d hdl trivial)
    go_wp2_with fail
    go_region_held3 (fun _=>True) (first | go_keep | trivial)
     (first | (go_at_call 194;refine(be_Uint16' d (i+2*j) _ (c-2*j) y _ J2 (by omega) J3).mono ?_;rintro e w4 ⟨rfl,k4⟩;have fz4:=((kr.drew).trans k4);have fl4:=fl.keep (((Keep.refl _ wr).drew).trans k4) trivial;have fz5:=fl4.free j;obtain⟨u1,hu1⟩:=fl4.cell j (by rw [←N.out];exact hjn)))
    have st:=fl4.step hjx
    rw [←HY.out]at st
    go_wp2
    go_roundg k
    case measure=>omega
    case rel=>
     refine⟨j+1,by omega,congrArg _ (by omega),congrArg _ (by omega),(fz4.setCell (.inl (Nat.le_refl _)) _),st⟩
theorem info22:(Tryz.prog.info? 22).map (fun i=>(i.zero,i.size,i.bytes))=some (some (.int .u32 0),1,4):=by kernel_rfl
theorem arrayUint32_is(g:Nat)(p:Addr)(hpg:p.block≠g)(xs:List (List UInt8))(hx:∀x∈xs,x.length=4)(hne:0<xs.length)(hmax:xs.length≤65536)(r h:List UInt8)(Hh:Hd 224 240 xs.length (112::xs.flatten) h)
 (w:World) (hc:w.cell? p=some (.slice none 0 0)) (hf:w.frozen? p=false) (B:Buf w g (h++(112::xs.flatten++r))):
 Calls Tryz.prog 114 #[.pointer (some p),.pointer (some ⟨g,0,none⟩)] w fun e w'=>e=.returned .nilIface∧ArrOut g p r 22 1 (xs.map fun x=>.int .u32 (Lib.beNat x)) w w':=by
 have hfl:=flat_len hx
 have hm:=make_one 320 22 _ _ Tryz.underlying320 info22 rfl (by omega) xs.length hmax
 obtain⟨n,hn⟩:∃n,n=xs.length:=⟨_,rfl⟩
 rw [←hn]at hm hne hmax
 have t1:decide ((0:Int)<n)=true:=by simp;omega
 have w1:IntKind.i64.wrap ((n:Int)*4)=n*4:=IntWalk.i64_in _ (by omega)
 have N:=Lib.hid hn
 have FL:=Lib.hid hfl
 have HX:=Lib.hid hx
 have HP:=Lib.hid hpg
 clear hn hfl hx hpg
 go_enter Tryz.func114,Tryz.ntmps114
 go_wp2_with fail
 refine(arrayHead g _ _ r h Hh (by rw [List.length_cons,FL.out];omega) (by rw [←N.out];omega) _ B).mono ?_
 rintro e w1 ⟨rfl,h1⟩
 rw [←N.out]
 have hc1':=h1.1.cell hc HP.out
 go_wp2_with fail
 refine(readType_is g _ _ _ h1.2).mono ?_
 rintro e w2 ⟨rfl,h2⟩
 go_wp2_with fail
 refine(buf_Next g xs.flatten r _ _ h2.2 (by rw [FL.out,←N.out];omega)).mono ?_
 rintro e w3 ⟨v,rfl,h3,hv⟩
 have T:=(h1.trans h2).trans h3
 have hlt:=cell_lt hc
 have hc3:=T.1.cell hc HP.out
 obtain⟨A,c,rfl,hc1,hc2,hA⟩:=hv
 obtain⟨d,i,rfl,hd⟩:=hA (ne_nil_of (n:=4*n) (by rw [FL.out,N.out]) (by omega))
 have hl:xs.flatten.length=4*n:=by rw [FL.out,N.out]
 rw [hl]at hc1
 simp only [hl]
 have ck:∀(j:Nat) (hj:j<xs.length),BytesAt w3 d (i+4*j) xs[j]:=chunk_at HX.out hd
 have CK:=Lib.hid ck
 have hdl:=lt_blk hd.choose_spec.1
 have fr3:w3.frozen? p=false:=(T.1.free hlt HP.out).trans hf
 clear hd ck hl
 have hcap:(4*n:Int)≤c:=by omega
 go_wp2_with fail
 go_loopg [16,116] n (fun k s11 s57 wr=>∃j:Nat,j+k=n∧s11=.int .i64 (4*(j:Int))∧s57=.int .i64 (j:Int)∧New w3 wr∧Fill wr w3.heap.size 22 xs (fun x=>.int .u32 (Lib.beNat x)) j)
 case atStart=>exact⟨0,by omega,rfl,rfl,(Keep.refl _ _).alloc _,Fill.zero (blk_new _ _) (by rw [size_madeCells,N.out])⟩
 case round=>
  obtain⟨j,hj,rfl,rfl,kr,fl⟩:=hrel
  cases gk with
  | zero=>
    obtain rfl:j=n:=by omega
    have hcr:=kr.cell hc3 trivial
    have hfr:wr.frozen? p=false:=(kr.free (cell_lt hc3) trivial).trans fr3
    go_wp2
    go_ret
    refine⟨rfl,_,wr,rfl,⟨T.1.trans (kr.keep _),T.2.new kr⟩,?_⟩
    have hw3:=T.1.size
    rw [N.out]at fl ⊢
    exact fl.out hw3
  | succ k=>
    have hjn:j<n:=by omega
    have tj:decide ((j:Int)<n)=true:=by simpa using hjn
    have e1:(0:Int)≤4*(j:Int):=by omega
    have e2:j≤n:=by omega
    have e3:¬c=4*j:=by omega
    have e4:(j:Int)<n:=by omega
    have tn:(4*(j:Int)).toNat=4*j:=by omega
    have e5:4≤4*n-4*j:=by omega
    have e6:4*(j:Int)+4≤c:=by omega
    have e7:4*(j:Int)+4≤4*n:=by omega
    have tn2:(4*(j:Int)+4).toNat=4*j+4:=by omega
    have e8:4≤4*j+4-4*j:=by omega
    have e9:4*(j:Int)≤4*(j:Int)+4:=by omega
    have wj:IntKind.i64.wrap (4*(j:Int)+4)=4*(j:Int)+4:=IntWalk.i64_in _ (by omega)
    have fz:=fl.free j
    obtain⟨u0,hu0⟩:=fl.cell j (by rw [←N.out];exact hjn)
    have hjx:j<xs.length:=by rw [←N.out];exact hjn
    obtain⟨y,hy⟩:∃y,y=xs[j]'hjx:=⟨_,rfl⟩
    have J:=CK.out j hjx
    have J2:=HX.out _ (List.getElem_mem hjx)
    rw [←hy]at J J2
    have HY:=Lib.hid hy
    clear hy
    have J3:=J.of_blk ((kr.drew).block d hdl trivial)
    go_wp2_with fail
    go_region_held3 (fun _=>True) (first | go_keep | trivial)
     (first | (go_at_call 186;refine(be_Uint32' d (i+4*j) _ (c-4*j) y _ J2 (by omega) J3).mono ?_;rintro e w4 ⟨rfl,k4⟩;have fz4:=((kr.drew).trans k4);have fl4:=fl.keep (((Keep.refl _ wr).drew).trans k4) trivial;have fz5:=fl4.free j;obtain⟨u1,hu1⟩:=fl4.cell j (by rw [←N.out];exact hjn)))
    have st:=fl4.step hjx
    rw [←HY.out]at st
    go_wp2
    go_roundg k
    case measure=>omega
    case rel=>
     refine⟨j+1,by omega,congrArg _ (by omega),congrArg _ (by omega),(fz4.setCell (.inl (Nat.le_refl _)) _),st⟩
theorem info21:(Tryz.prog.info? 21).map (fun i=>(i.zero,i.size,i.bytes))=some (some (.int .i32 0),1,4):=by kernel_rfl
theorem arrayInt32_is(g:Nat)(p:Addr)(hpg:p.block≠g)(xs:List (List UInt8))(hx:∀x∈xs,x.length=4)(hne:0<xs.length)(hmax:xs.length≤65536)(r h:List UInt8)(Hh:Hd 224 240 xs.length (113::xs.flatten) h)
 (w:World) (hc:w.cell? p=some (.slice none 0 0)) (hf:w.frozen? p=false) (B:Buf w g (h++(113::xs.flatten++r))):
 Calls Tryz.prog 115 #[.pointer (some p),.pointer (some ⟨g,0,none⟩)] w fun e w'=>e=.returned .nilIface∧ArrOut g p r 21 1 (xs.map fun x=>.int .i32 (wrap32 (Lib.beNat x))) w w':=by
 have hfl:=flat_len hx
 have hm:=make_one 332 21 _ _ Tryz.underlying332 info21 rfl (by omega) xs.length hmax
 obtain⟨n,hn⟩:∃n,n=xs.length:=⟨_,rfl⟩
 rw [←hn]at hm hne hmax
 have t1:decide ((0:Int)<n)=true:=by simp;omega
 have w1:IntKind.i64.wrap ((n:Int)*4)=n*4:=IntWalk.i64_in _ (by omega)
 have N:=Lib.hid hn
 have FL:=Lib.hid hfl
 have HX:=Lib.hid hx
 have HP:=Lib.hid hpg
 clear hn hfl hx hpg
 go_enter Tryz.func115,Tryz.ntmps115
 go_wp2_with fail
 refine(arrayHead g _ _ r h Hh (by rw [List.length_cons,FL.out];omega) (by rw [←N.out];omega) _ B).mono ?_
 rintro e w1 ⟨rfl,h1⟩
 rw [←N.out]
 have hc1':=h1.1.cell hc HP.out
 go_wp2_with fail
 refine(readType_is g _ _ _ h1.2).mono ?_
 rintro e w2 ⟨rfl,h2⟩
 go_wp2_with fail
 refine(buf_Next g xs.flatten r _ _ h2.2 (by rw [FL.out,←N.out];omega)).mono ?_
 rintro e w3 ⟨v,rfl,h3,hv⟩
 have T:=(h1.trans h2).trans h3
 have hlt:=cell_lt hc
 have hc3:=T.1.cell hc HP.out
 obtain⟨A,c,rfl,hc1,hc2,hA⟩:=hv
 obtain⟨d,i,rfl,hd⟩:=hA (ne_nil_of (n:=4*n) (by rw [FL.out,N.out]) (by omega))
 have hl:xs.flatten.length=4*n:=by rw [FL.out,N.out]
 rw [hl]at hc1
 simp only [hl]
 have ck:∀(j:Nat) (hj:j<xs.length),BytesAt w3 d (i+4*j) xs[j]:=chunk_at HX.out hd
 have CK:=Lib.hid ck
 have hdl:=lt_blk hd.choose_spec.1
 have fr3:w3.frozen? p=false:=(T.1.free hlt HP.out).trans hf
 clear hd ck hl
 have hcap:(4*n:Int)≤c:=by omega
 go_wp2_with fail
 go_loopg [15,96] n (fun k s11 s57 wr=>∃j:Nat,j+k=n∧s11=.int .i64 (4*(j:Int))∧s57=.int .i64 (j:Int)∧New w3 wr∧Fill wr w3.heap.size 21 xs (fun x=>.int .i32 (wrap32 (Lib.beNat x))) j)
 case atStart=>exact⟨0,by omega,rfl,rfl,(Keep.refl _ _).alloc _,Fill.zero (blk_new _ _) (by rw [size_madeCells,N.out])⟩
 case round=>
  obtain⟨j,hj,rfl,rfl,kr,fl⟩:=hrel
  cases gk with
  | zero=>
    obtain rfl:j=n:=by omega
    have hcr:=kr.cell hc3 trivial
    have hfr:wr.frozen? p=false:=(kr.free (cell_lt hc3) trivial).trans fr3
    go_wp2
    go_ret
    refine⟨rfl,_,wr,rfl,⟨T.1.trans (kr.keep _),T.2.new kr⟩,?_⟩
    have hw3:=T.1.size
    rw [N.out]at fl ⊢
    exact fl.out hw3
  | succ k=>
    have hjn:j<n:=by omega
    have tj:decide ((j:Int)<n)=true:=by simpa using hjn
    have e1:(0:Int)≤4*(j:Int):=by omega
    have e2:j≤n:=by omega
    have e3:¬c=4*j:=by omega
    have e4:(j:Int)<n:=by omega
    have tn:(4*(j:Int)).toNat=4*j:=by omega
    have e5:4≤4*n-4*j:=by omega
    have fz:=fl.free j
    obtain⟨u0,hu0⟩:=fl.cell j (by rw [←N.out];exact hjn)
    have hjx:j<xs.length:=by rw [←N.out];exact hjn
    obtain⟨y,hy⟩:∃y,y=xs[j]'hjx:=⟨_,rfl⟩
    have J:=CK.out j hjx
    have J2:=HX.out _ (List.getElem_mem hjx)
    rw [←hy]at J J2
    have HY:=Lib.hid hy
    clear hy
    have J3:=J.of_blk ((kr.drew).block d hdl trivial)
    go_wp2_with fail
    go_region_held3 (fun _=>True) (first | go_keep | trivial)
     (first | (go_at_call 186;refine(be_Uint32' d (i+4*j) (4*n-4*j) (c-4*j) y _ J2 e5 J3).mono ?_;rintro e w4 ⟨rfl,k4⟩;have fz4:=((kr.drew).trans k4);have fl4:=fl.keep (((Keep.refl _ wr).drew).trans k4) trivial;have fz5:=fl4.free j;obtain⟨u1,hu1⟩:=fl4.cell j (by rw [←N.out];exact hjn)))
    have st:=fl4.step hjx
    rw [←HY.out]at st
    go_wp2
    go_roundg k
    case measure=>omega
    case rel=>
     refine⟨j+1,by omega,congrArg _ (by omega),congrArg _ (by omega),(fz4.setCell (.inl (Nat.le_refl _)) _),st⟩
theorem info26:(Tryz.prog.info? 26).map (fun i=>(i.zero,i.size,i.bytes))=some (some (.int .u64 0),1,8):=by kernel_rfl
theorem arrayUint64_is(g:Nat)(p:Addr)(hpg:p.block≠g)(xs:List (List UInt8))(hx:∀x∈xs,x.length=8)(hne:0<xs.length)(hmax:xs.length≤65536)(r h:List UInt8)(Hh:Hd 224 240 xs.length (128::xs.flatten) h)
 (w:World) (hc:w.cell? p=some (.slice none 0 0)) (hf:w.frozen? p=false) (B:Buf w g (h++(128::xs.flatten++r))):
 Calls Tryz.prog 116 #[.pointer (some p),.pointer (some ⟨g,0,none⟩)] w fun e w'=>e=.returned .nilIface∧ArrOut g p r 26 1 (xs.map fun x=>.int .u64 (Lib.beNat x)) w w':=by
 have hfl:=flat_len hx
 have hm:=make_one 323 26 _ _ Tryz.underlying323 info26 rfl (by omega) xs.length hmax
 obtain⟨n,hn⟩:∃n,n=xs.length:=⟨_,rfl⟩
 rw [←hn]at hm hne hmax
 have t1:decide ((0:Int)<n)=true:=by simp;omega
 have w1:IntKind.i64.wrap ((n:Int)*8)=n*8:=IntWalk.i64_in _ (by omega)
 have N:=Lib.hid hn
 have FL:=Lib.hid hfl
 have HX:=Lib.hid hx
 have HP:=Lib.hid hpg
 clear hn hfl hx hpg
 go_enter Tryz.func116,Tryz.ntmps116
 go_wp2_with fail
 refine(arrayHead g _ _ r h Hh (by rw [List.length_cons,FL.out];omega) (by rw [←N.out];omega) _ B).mono ?_
 rintro e w1 ⟨rfl,h1⟩
 rw [←N.out]
 have hc1':=h1.1.cell hc HP.out
 go_wp2_with fail
 refine(readType_is g _ _ _ h1.2).mono ?_
 rintro e w2 ⟨rfl,h2⟩
 go_wp2_with fail
 refine(buf_Next g xs.flatten r _ _ h2.2 (by rw [FL.out,←N.out];omega)).mono ?_
 rintro e w3 ⟨v,rfl,h3,hv⟩
 have T:=(h1.trans h2).trans h3
 have hlt:=cell_lt hc
 have hc3:=T.1.cell hc HP.out
 obtain⟨A,c,rfl,hc1,hc2,hA⟩:=hv
 obtain⟨d,i,rfl,hd⟩:=hA (ne_nil_of (n:=8*n) (by rw [FL.out,N.out]) (by omega))
 have hl:xs.flatten.length=8*n:=by rw [FL.out,N.out]
 rw [hl]at hc1
 simp only [hl]
 have ck:∀(j:Nat) (hj:j<xs.length),BytesAt w3 d (i+8*j) xs[j]:=chunk_at HX.out hd
 have CK:=Lib.hid ck
 have hdl:=lt_blk hd.choose_spec.1
 have fr3:w3.frozen? p=false:=(T.1.free hlt HP.out).trans hf
 clear hd ck hl
 have hcap:(8*n:Int)≤c:=by omega
 go_wp2_with fail
 go_loopg [16,116] n (fun k s11 s57 wr=>∃j:Nat,j+k=n∧s11=.int .i64 (8*(j:Int))∧s57=.int .i64 (j:Int)∧New w3 wr∧Fill wr w3.heap.size 26 xs (fun x=>.int .u64 (Lib.beNat x)) j)
 case atStart=>exact⟨0,by omega,rfl,rfl,(Keep.refl _ _).alloc _,Fill.zero (blk_new _ _) (by rw [size_madeCells,N.out])⟩
 case round=>
  obtain⟨j,hj,rfl,rfl,kr,fl⟩:=hrel
  cases gk with
  | zero=>
    obtain rfl:j=n:=by omega
    have hcr:=kr.cell hc3 trivial
    have hfr:wr.frozen? p=false:=(kr.free (cell_lt hc3) trivial).trans fr3
    go_wp2
    go_ret
    refine⟨rfl,_,wr,rfl,⟨T.1.trans (kr.keep _),T.2.new kr⟩,?_⟩
    have hw3:=T.1.size
    rw [N.out]at fl ⊢
    exact fl.out hw3
  | succ k=>
    have hjn:j<n:=by omega
    have tj:decide ((j:Int)<n)=true:=by simpa using hjn
    have e1:(0:Int)≤8*(j:Int):=by omega
    have e2:j≤n:=by omega
    have e3:¬c=8*j:=by omega
    have e4:(j:Int)<n:=by omega
    have tn:(8*(j:Int)).toNat=8*j:=by omega
    have e5:8≤8*n-8*j:=by omega
    have e6:8*(j:Int)+8≤c:=by omega
    have e7:8*(j:Int)+8≤8*n:=by omega
    have tn2:(8*(j:Int)+8).toNat=8*j+8:=by omega
    have e8:8≤8*j+8-8*j:=by omega
    have e9:8*(j:Int)≤8*(j:Int)+8:=by omega
    have wj:IntKind.i64.wrap (8*(j:Int)+8)=8*(j:Int)+8:=IntWalk.i64_in _ (by omega)
    have fz:=fl.free j
    obtain⟨u0,hu0⟩:=fl.cell j (by rw [←N.out];exact hjn)
    have hjx:j<xs.length:=by rw [←N.out];exact hjn
    obtain⟨y,hy⟩:∃y,y=xs[j]'hjx:=⟨_,rfl⟩
    have J:=CK.out j hjx
    have J2:=HX.out _ (List.getElem_mem hjx)
    rw [←hy]at J J2
    have HY:=Lib.hid hy
    clear hy
    have J3:=J.of_blk ((kr.drew).block d hdl trivial)
    go_wp2_with fail
    go_region_held3 (fun _=>True) (first | go_keep | trivial)
     (first | (go_at_call 195;refine(be_Uint64' d (i+8*j) _ (c-8*j) y _ J2 (by omega) J3).mono ?_;rintro e w4 ⟨rfl,k4⟩;have fz4:=((kr.drew).trans k4);have fl4:=fl.keep (((Keep.refl _ wr).drew).trans k4) trivial;have fz5:=fl4.free j;obtain⟨u1,hu1⟩:=fl4.cell j (by rw [←N.out];exact hjn)))
    have st:=fl4.step hjx
    rw [←HY.out]at st
    go_wp2
    go_roundg k
    case measure=>omega
    case rel=>
     refine⟨j+1,by omega,congrArg _ (by omega),congrArg _ (by omega),(fz4.setCell (.inl (Nat.le_refl _)) _),st⟩
theorem info2:(Tryz.prog.info? 2).map (fun i=>(i.zero,i.size,i.bytes))=some (some (.int .i64 0),1,8):=by kernel_rfl
theorem arrayInt64_is(g:Nat)(p:Addr)(hpg:p.block≠g)(xs:List (List UInt8))(hx:∀x∈xs,x.length=8)(hne:0<xs.length)(hmax:xs.length≤65536)(r h:List UInt8)(Hh:Hd 224 240 xs.length (129::xs.flatten) h)
 (w:World) (hc:w.cell? p=some (.slice none 0 0)) (hf:w.frozen? p=false) (B:Buf w g (h++(129::xs.flatten++r))):
 Calls Tryz.prog 117 #[.pointer (some p),.pointer (some ⟨g,0,none⟩)] w fun e w'=>e=.returned .nilIface∧ArrOut g p r 2 1 (xs.map fun x=>.int .i64 (wrap64 (Lib.beNat x))) w w':=by
 have hfl:=flat_len hx
 have hm:=make_one 335 2 _ _ Tryz.underlying335 info2 rfl (by omega) xs.length hmax
 obtain⟨n,hn⟩:∃n,n=xs.length:=⟨_,rfl⟩
 rw [←hn]at hm hne hmax
 have t1:decide ((0:Int)<n)=true:=by simp;omega
 have w1:IntKind.i64.wrap ((n:Int)*8)=n*8:=IntWalk.i64_in _ (by omega)
 have N:=Lib.hid hn
 have FL:=Lib.hid hfl
 have HX:=Lib.hid hx
 have HP:=Lib.hid hpg
 clear hn hfl hx hpg
 go_enter Tryz.func117,Tryz.ntmps117
 go_wp2_with fail
 refine(arrayHead g _ _ r h Hh (by rw [List.length_cons,FL.out];omega) (by rw [←N.out];omega) _ B).mono ?_
 rintro e w1 ⟨rfl,h1⟩
 rw [←N.out]
 have hc1':=h1.1.cell hc HP.out
 go_wp2_with fail
 refine(readType_is g _ _ _ h1.2).mono ?_
 rintro e w2 ⟨rfl,h2⟩
 go_wp2_with fail
 refine(buf_Next g xs.flatten r _ _ h2.2 (by rw [FL.out,←N.out];omega)).mono ?_
 rintro e w3 ⟨v,rfl,h3,hv⟩
 have T:=(h1.trans h2).trans h3
 have hlt:=cell_lt hc
 have hc3:=T.1.cell hc HP.out
 obtain⟨A,c,rfl,hc1,hc2,hA⟩:=hv
 obtain⟨d,i,rfl,hd⟩:=hA (ne_nil_of (n:=8*n) (by rw [FL.out,N.out]) (by omega))
 have hl:xs.flatten.length=8*n:=by rw [FL.out,N.out]
 rw [hl]at hc1
 simp only [hl]
 have ck:∀(j:Nat) (hj:j<xs.length),BytesAt w3 d (i+8*j) xs[j]:=chunk_at HX.out hd
 have CK:=Lib.hid ck
 have hdl:=lt_blk hd.choose_spec.1
 have fr3:w3.frozen? p=false:=(T.1.free hlt HP.out).trans hf
 clear hd ck hl
 have hcap:(8*n:Int)≤c:=by omega
 go_wp2_with fail
 go_loopg [15,96] n (fun k s11 s57 wr=>∃j:Nat,j+k=n∧s11=.int .i64 (8*(j:Int))∧s57=.int .i64 (j:Int)∧New w3 wr∧Fill wr w3.heap.size 2 xs (fun x=>.int .i64 (wrap64 (Lib.beNat x))) j)
 case atStart=>exact⟨0,by omega,rfl,rfl,(Keep.refl _ _).alloc _,Fill.zero (blk_new _ _) (by rw [size_madeCells,N.out])⟩
 case round=>
  obtain⟨j,hj,rfl,rfl,kr,fl⟩:=hrel
  cases gk with
  | zero=>
    obtain rfl:j=n:=by omega
    have hcr:=kr.cell hc3 trivial
    have hfr:wr.frozen? p=false:=(kr.free (cell_lt hc3) trivial).trans fr3
    go_wp2
    go_ret
    refine⟨rfl,_,wr,rfl,⟨T.1.trans (kr.keep _),T.2.new kr⟩,?_⟩
    have hw3:=T.1.size
    rw [N.out]at fl ⊢
    exact fl.out hw3
  | succ k=>
    have hjn:j<n:=by omega
    have tj:decide ((j:Int)<n)=true:=by simpa using hjn
    have e1:(0:Int)≤8*(j:Int):=by omega
    have e2:j≤n:=by omega
    have e3:¬c=8*j:=by omega
    have e4:(j:Int)<n:=by omega
    have tn:(8*(j:Int)).toNat=8*j:=by omega
    have e5:8≤8*n-8*j:=by omega
    have fz:=fl.free j
    obtain⟨u0,hu0⟩:=fl.cell j (by rw [←N.out];exact hjn)
    have hjx:j<xs.length:=by rw [←N.out];exact hjn
    obtain⟨y,hy⟩:∃y,y=xs[j]'hjx:=⟨_,rfl⟩
    have J:=CK.out j hjx
    have J2:=HX.out _ (List.getElem_mem hjx)
    rw [←hy]at J J2
    have HY:=Lib.hid hy
    clear hy
    have J3:=J.of_blk ((kr.drew).block d hdl trivial)
    go_wp2_with fail
    go_region_held3 (fun _=>True) (first | go_keep | trivial)
     (first | (go_at_call 195;refine(be_Uint64' d (i+8*j) (8*n-8*j) (c-8*j) y _ J2 e5 J3).mono ?_;rintro e w4 ⟨rfl,k4⟩;have fz4:=((kr.drew).trans k4);have fl4:=fl.keep (((Keep.refl _ wr).drew).trans k4) trivial;have fz5:=fl4.free j;obtain⟨u1,hu1⟩:=fl4.cell j (by rw [←N.out];exact hjn)))
    have st:=fl4.step hjx
    rw [←HY.out]at st
    go_wp2
    go_roundg k
    case measure=>omega
    case rel=>
     refine⟨j+1,by omega,congrArg _ (by omega),congrArg _ (by omega),(fz4.setCell (.inl (Nat.le_refl _)) _),st⟩
theorem info212:(Tryz.prog.info? 212).map (fun i=>(i.zero,i.size,i.bytes))=some (some (.float .f32 0),1,4):=by kernel_rfl
theorem arrayFloat_is(g:Nat)(p:Addr)(hpg:p.block≠g)(xs:List (List UInt8))(hx:∀x∈xs,x.length=4)(hne:0<xs.length)(hmax:xs.length≤65536)(r h:List UInt8)(Hh:Hd 224 240 xs.length (114::xs.flatten) h)
 (w:World) (hc:w.cell? p=some (.slice none 0 0)) (hf:w.frozen? p=false) (B:Buf w g (h++(114::xs.flatten++r))):
 Calls Tryz.prog 118 #[.pointer (some p),.pointer (some ⟨g,0,none⟩)] w fun e w'=>e=.returned .nilIface∧ArrOut g p r 212 1 (xs.map fun x=>.float .f32 (Lib.beNat x)) w w':=by
 have hfl:=flat_len hx
 have hm:=make_one 338 212 _ _ Tryz.underlying338 info212 rfl (by omega) xs.length hmax
 obtain⟨n,hn⟩:∃n,n=xs.length:=⟨_,rfl⟩
 rw [←hn]at hm hne hmax
 have t1:decide ((0:Int)<n)=true:=by simp;omega
 have w1:IntKind.i64.wrap ((n:Int)*4)=n*4:=IntWalk.i64_in _ (by omega)
 have N:=Lib.hid hn
 have FL:=Lib.hid hfl
 have HX:=Lib.hid hx
 have HP:=Lib.hid hpg
 clear hn hfl hx hpg
 go_enter Tryz.func118,Tryz.ntmps118
 go_wp2_with fail
 refine(arrayHead g _ _ r h Hh (by rw [List.length_cons,FL.out];omega) (by rw [←N.out];omega) _ B).mono ?_
 rintro e w1 ⟨rfl,h1⟩
 rw [←N.out]
 have hc1':=h1.1.cell hc HP.out
 go_wp2_with fail
 refine(readType_is g _ _ _ h1.2).mono ?_
 rintro e w2 ⟨rfl,h2⟩
 go_wp2_with fail
 refine(buf_Next g xs.flatten r _ _ h2.2 (by rw [FL.out,←N.out];omega)).mono ?_
 rintro e w3 ⟨v,rfl,h3,hv⟩
 have T:=(h1.trans h2).trans h3
 have hlt:=cell_lt hc
 have hc3:=T.1.cell hc HP.out
 obtain⟨A,c,rfl,hc1,hc2,hA⟩:=hv
 obtain⟨d,i,rfl,hd⟩:=hA (ne_nil_of (n:=4*n) (by rw [FL.out,N.out]) (by omega))
 have hl:xs.flatten.length=4*n:=by rw [FL.out,N.out]
 rw [hl]at hc1
 simp only [hl]
 have ck:∀(j:Nat) (hj:j<xs.length),BytesAt w3 d (i+4*j) xs[j]:=chunk_at HX.out hd
 have CK:=Lib.hid ck
 have hdl:=lt_blk hd.choose_spec.1
 have fr3:w3.frozen? p=false:=(T.1.free hlt HP.out).trans hf
 clear hd ck hl
 have hcap:(4*n:Int)≤c:=by omega
 go_wp2_with fail
 go_loopg [11,58] n (fun k s11 s57 wr=>∃j:Nat,j+k=n∧s11=.int .i64 (4*(j:Int))∧s57=.int .i64 (j:Int)∧New w3 wr∧Fill wr w3.heap.size 212 xs (fun x=>.float .f32 (Lib.beNat x)) j)
 case atStart=>exact⟨0,by omega,rfl,rfl,(Keep.refl _ _).alloc _,Fill.zero (blk_new _ _) (by rw [size_madeCells,N.out])⟩
 case round=>
  obtain⟨j,hj,rfl,rfl,kr,fl⟩:=hrel
  cases gk with
  | zero=>
    obtain rfl:j=n:=by omega
    have hcr:=kr.cell hc3 trivial
    have hfr:wr.frozen? p=false:=(kr.free (cell_lt hc3) trivial).trans fr3
    go_wp2
    go_ret
    refine⟨rfl,_,wr,rfl,⟨T.1.trans (kr.keep _),T.2.new kr⟩,?_⟩
    have hw3:=T.1.size
    rw [N.out]at fl ⊢
    exact fl.out hw3
  | succ k=>
    have hjn:j<n:=by omega
    have tj:decide ((j:Int)<n)=true:=by simpa using hjn
    have e1:(0:Int)≤4*(j:Int):=by omega
    have e2:j≤n:=by omega
    have e3:¬c=4*j:=by omega
    have e4:(j:Int)<n:=by omega
    have tn:(4*(j:Int)).toNat=4*j:=by omega
    have e5:4≤4*n-4*j:=by omega
    have fz:=fl.free j
    obtain⟨u0,hu0⟩:=fl.cell j (by rw [←N.out];exact hjn)
    have hjx:j<xs.length:=by rw [←N.out];exact hjn
    obtain⟨y,hy⟩:∃y,y=xs[j]'hjx:=⟨_,rfl⟩
    have J:=CK.out j hjx
    have J2:=HX.out _ (List.getElem_mem hjx)
    rw [←hy]at J J2
    have HY:=Lib.hid hy
    clear hy
    have J3:=J.of_blk ((kr.drew).block d hdl trivial)
    go_wp2_with fail
    go_region_held3 (fun _=>True) (first | go_keep | trivial)
     (first | (go_at_call 186;refine(be_Uint32' d (i+4*j) (4*n-4*j) (c-4*j) y _ J2 e5 J3).mono ?_;rintro e w4 ⟨rfl,k4⟩;have fz4:=((kr.drew).trans k4);have fl4:=fl.keep (((Keep.refl _ wr).drew).trans k4) trivial;have fz5:=fl4.free j;obtain⟨u1,hu1⟩:=fl4.cell j (by rw [←N.out];exact hjn)))
    have st:=fl4.step hjx
    rw [←HY.out]at st
    go_wp2
    go_roundg k
    case measure=>omega
    case rel=>
     refine⟨j+1,by omega,congrArg _ (by omega),congrArg _ (by omega),(fz4.setCell (.inl (Nat.le_refl _)) _),st⟩
theorem info216:(Tryz.prog.info? 216).map (fun i=>(i.zero,i.size,i.bytes))=some (some (.float .f64 0),1,8):=by kernel_rfl
theorem arrayDouble_is(g:Nat)(p:Addr)(hpg:p.block≠g)(xs:List (List UInt8))(hx:∀x∈xs,x.length=8)(hne:0<xs.length)(hmax:xs.length≤65536)(r h:List UInt8)(Hh:Hd 224 240 xs.length (130::xs.flatten) h)
 (w:World) (hc:w.cell? p=some (.slice none 0 0)) (hf:w.frozen? p=false) (B:Buf w g (h++(130::xs.flatten++r))):
 Calls Tryz.prog 119 #[.pointer (some p),.pointer (some ⟨g,0,none⟩)] w fun e w'=>e=.returned .nilIface∧ArrOut g p r 216 1 (xs.map fun x=>.float .f64 (Lib.beNat x)) w w':=by
 have hfl:=flat_len hx
 have hm:=make_one 341 216 _ _ Tryz.underlying341 info216 rfl (by omega) xs.length hmax
 obtain⟨n,hn⟩:∃n,n=xs.length:=⟨_,rfl⟩
 rw [←hn]at hm hne hmax
 have t1:decide ((0:Int)<n)=true:=by simp;omega
 have w1:IntKind.i64.wrap ((n:Int)*8)=n*8:=IntWalk.i64_in _ (by omega)
 have N:=Lib.hid hn
 have FL:=Lib.hid hfl
 have HX:=Lib.hid hx
 have HP:=Lib.hid hpg
 clear hn hfl hx hpg
 go_enter Tryz.func119,Tryz.ntmps119
 go_wp2_with fail
 refine(arrayHead g _ _ r h Hh (by rw [List.length_cons,FL.out];omega) (by rw [←N.out];omega) _ B).mono ?_
 rintro e w1 ⟨rfl,h1⟩
 rw [←N.out]
 have hc1':=h1.1.cell hc HP.out
 go_wp2_with fail
 refine(readType_is g _ _ _ h1.2).mono ?_
 rintro e w2 ⟨rfl,h2⟩
 go_wp2_with fail
 refine(buf_Next g xs.flatten r _ _ h2.2 (by rw [FL.out,←N.out];omega)).mono ?_
 rintro e w3 ⟨v,rfl,h3,hv⟩
 have T:=(h1.trans h2).trans h3
 have hlt:=cell_lt hc
 have hc3:=T.1.cell hc HP.out
 obtain⟨A,c,rfl,hc1,hc2,hA⟩:=hv
 obtain⟨d,i,rfl,hd⟩:=hA (ne_nil_of (n:=8*n) (by rw [FL.out,N.out]) (by omega))
 have hl:xs.flatten.length=8*n:=by rw [FL.out,N.out]
 rw [hl]at hc1
 simp only [hl]
 have ck:∀(j:Nat) (hj:j<xs.length),BytesAt w3 d (i+8*j) xs[j]:=chunk_at HX.out hd
 have CK:=Lib.hid ck
 have hdl:=lt_blk hd.choose_spec.1
 have fr3:w3.frozen? p=false:=(T.1.free hlt HP.out).trans hf
 clear hd ck hl
 have hcap:(8*n:Int)≤c:=by omega
 go_wp2_with fail
 go_loopg [11,58] n (fun k s11 s57 wr=>∃j:Nat,j+k=n∧s11=.int .i64 (8*(j:Int))∧s57=.int .i64 (j:Int)∧New w3 wr∧Fill wr w3.heap.size 216 xs (fun x=>.float .f64 (Lib.beNat x)) j)
 case atStart=>exact⟨0,by omega,rfl,rfl,(Keep.refl _ _).alloc _,Fill.zero (blk_new _ _) (by rw [size_madeCells,N.out])⟩
 case round=>
  obtain⟨j,hj,rfl,rfl,kr,fl⟩:=hrel
  cases gk with
  | zero=>
    obtain rfl:j=n:=by omega
    have hcr:=kr.cell hc3 trivial
    have hfr:wr.frozen? p=false:=(kr.free (cell_lt hc3) trivial).trans fr3
    go_wp2
    go_ret
    refine⟨rfl,_,wr,rfl,⟨T.1.trans (kr.keep _),T.2.new kr⟩,?_⟩
    have hw3:=T.1.size
    rw [N.out]at fl ⊢
    exact fl.out hw3
  | succ k=>
    have hjn:j<n:=by omega
    have tj:decide ((j:Int)<n)=true:=by simpa using hjn
    have e1:(0:Int)≤8*(j:Int):=by omega
    have e2:j≤n:=by omega
    have e3:¬c=8*j:=by omega
    have e4:(j:Int)<n:=by omega
    have tn:(8*(j:Int)).toNat=8*j:=by omega
    have e5:8≤8*n-8*j:=by omega
    have fz:=fl.free j
    obtain⟨u0,hu0⟩:=fl.cell j (by rw [←N.out];exact hjn)
    have hjx:j<xs.length:=by rw [←N.out];exact hjn
    obtain⟨y,hy⟩:∃y,y=xs[j]'hjx:=⟨_,rfl⟩
    have J:=CK.out j hjx
    have J2:=HX.out _ (List.getElem_mem hjx)
    rw [←hy]at J J2
    have HY:=Lib.hid hy
    clear hy
    have J3:=J.of_blk ((kr.drew).block d hdl trivial)
    go_wp2_with fail
    go_region_held3 (fun _=>True) (first | go_keep | trivial)
     (first | (go_at_call 195;refine(be_Uint64' d (i+8*j) (8*n-8*j) (c-8*j) y _ J2 e5 J3).mono ?_;rintro e w4 ⟨rfl,k4⟩;have fz4:=((kr.drew).trans k4);have fl4:=fl.keep (((Keep.refl _ wr).drew).trans k4) trivial;have fz5:=fl4.free j;obtain⟨u1,hu1⟩:=fl4.cell j (by rw [←N.out];exact hjn)))
    have st:=fl4.step hjx
    rw [←HY.out]at st
    go_wp2
    go_roundg k
    case measure=>omega
    case rel=>
     refine⟨j+1,by omega,congrArg _ (by omega),congrArg _ (by omega),(fz4.setCell (.inl (Nat.le_refl _)) _),st⟩
theorem info191:(Tryz.prog.info? 191).map (fun i=>(i.zero,i.size,i.bytes))=some (some (.int .i8 0),1,1):=by kernel_rfl
theorem arrayInt8_is(g:Nat)(p:Addr)(hpg:p.block≠g)(xs:List UInt8)(hne:0<xs.length)(hmax:xs.length≤65536)(r h:List UInt8)(Hh:Hd 224 240 xs.length (81::xs) h)
 (w:World) (hc:w.cell? p=some (.slice none 0 0)) (hf:w.frozen? p=false) (B:Buf w g (h++(81::xs++r))):
 Calls Tryz.prog 111 #[.pointer (some p),.pointer (some ⟨g,0,none⟩)] w fun e w'=>e=.returned .nilIface∧ArrOut g p r 191 1 (xs.map fun x=>.int .i8 (IntKind.i8.wrap x.toNat)) w w':=by
 have hm:=make_one 326 191 _ _ Tryz.underlying326 info191 rfl (by omega) xs.length hmax
 obtain⟨n,hn⟩:∃n,n=xs.length:=⟨_,rfl⟩
 rw [←hn]at hm hne hmax
 have t1:decide ((0:Int)<n)=true:=by simp;omega
 have N:=Lib.hid hn
 have HP:=Lib.hid hpg
 clear hn hpg
 go_enter Tryz.func111,Tryz.ntmps111
 go_wp2_with fail
 refine(arrayHead g _ _ r h Hh (by rw [List.length_cons];omega) (by rw [←N.out];omega) _ B).mono ?_
 rintro e w1 ⟨rfl,h1⟩
 rw [←N.out]
 have hc1':=h1.1.cell hc HP.out
 go_wp2_with fail
 refine(readType_is g _ _ _ (h1.2)).mono ?_
 rintro e w2 ⟨rfl,h2⟩
 go_wp2_with fail
 refine(buf_Next g xs r _ _ h2.2 (by rw [←N.out])).mono ?_
 rintro e w3 ⟨v,rfl,h3,hv⟩
 have T:=(h1.trans h2).trans h3
 have hlt:=cell_lt hc
 have hc3:=T.1.cell hc HP.out
 obtain⟨A,c,rfl,hc1,hc2,hA⟩:=hv
 obtain⟨d,i,rfl,hd⟩:=hA (ne_nil_of (n:=n) N.out.symm (by omega))
 rw [←N.out]at hc1
 simp only [←N.out]
 have ck:∀(j:Nat) (hj:j<xs.length),w3.cell? ⟨d,i+j,none⟩=some (.int .u8 (xs[j].toNat:Int)):=hd.cell
 have CK:=Lib.hid ck
 have hdl:=lt_blk hd.choose_spec.1
 have fr3:w3.frozen? p=false:=(T.1.free hlt HP.out).trans hf
 clear hd ck
 have hcap:(n:Int)≤c:=by omega
 go_wp2_with fail
 go_loopg [56] n (fun k s57 wr=>∃j:Nat,j+k=n∧s57=.int .i64 (j:Int)∧New w3 wr∧Fill wr w3.heap.size 191 xs (fun x=>.int .i8 (IntKind.i8.wrap x.toNat)) j)
 case atStart=>exact⟨0,by omega,rfl,(Keep.refl _ _).alloc _,Fill.zero (blk_new _ _) (by rw [size_madeCells,N.out])⟩
 case round=>
  obtain⟨j,hj,rfl,kr,fl⟩:=hrel
  cases gk with
  | zero=>
    obtain rfl:j=n:=by omega
    have hcr:=kr.cell hc3 trivial
    have hfr:wr.frozen? p=false:=(kr.free (cell_lt hc3) trivial).trans fr3
    go_wp2
    go_ret
    refine⟨rfl,_,wr,rfl,⟨T.1.trans (kr.keep _),T.2.new kr⟩,?_⟩
    have hw3:w.heap.size≤w3.heap.size:=T.1.size
    rw [N.out]at fl ⊢
    exact fl.out hw3
  | succ k=>
    have hjn:j<n:=by omega
    have tj:decide ((j:Int)<n)=true:=by simpa using hjn
    have e4:(j:Int)<n:=by omega
    have fz:=fl.free j
    obtain⟨u0,hu0⟩:=fl.cell j (by rw [←N.out];exact hjn)
    have hjx:j<xs.length:=by rw [←N.out];exact hjn
    have J:=kr.cell (CK.out j hjx) trivial
    have st:=fl.step hjx
    generalize xs[j]'hjx=y at J st
    have hy:=y.toNat_lt
    have hb1:(y.toNat:Int) % 4294967296=y.toNat:=by omega
    go_wp2
    go_roundg k
    case measure=>omega
    case rel=>
     refine⟨j+1,by omega,congrArg _ (by omega),(kr.setCell (.inl (Nat.le_refl _)) _),?_⟩
     first | exact st | (simpa using st)
theorem arrayUint32_s(g:Nat)(p:Addr)(hpg:p.block≠g)(xs:List UInt8)(hne:0<xs.length)(hmax:xs.length≤65536)(r h:List UInt8)(Hh:Hd 224 240 xs.length (82::xs) h)
 (w:World) (hc:w.cell? p=some (.slice none 0 0)) (hf:w.frozen? p=false) (B:Buf w g (h++(82::xs++r))):
 Calls Tryz.prog 114 #[.pointer (some p),.pointer (some ⟨g,0,none⟩)] w fun e w'=>e=.returned .nilIface∧ArrOut g p r 22 1 (xs.map fun x=>.int .u32 x.toNat) w w':=by
 have hm:=make_one 320 22 _ _ Tryz.underlying320 info22 rfl (by omega) xs.length hmax
 obtain⟨n,hn⟩:∃n,n=xs.length:=⟨_,rfl⟩
 rw [←hn]at hm hne hmax
 have t1:decide ((0:Int)<n)=true:=by simp;omega
 have N:=Lib.hid hn
 have HP:=Lib.hid hpg
 clear hn hpg
 go_enter Tryz.func114,Tryz.ntmps114
 go_wp2_with fail
 refine(arrayHead g _ _ r h Hh (by rw [List.length_cons];omega) (by rw [←N.out];omega) _ B).mono ?_
 rintro e w1 ⟨rfl,h1⟩
 rw [←N.out]
 have hc1':=h1.1.cell hc HP.out
 go_wp2_with fail
 refine(readType_is g _ _ _ (h1.2)).mono ?_
 rintro e w2 ⟨rfl,h2⟩
 go_wp2_with fail
 refine(buf_Next g xs r _ _ h2.2 (by rw [←N.out])).mono ?_
 rintro e w3 ⟨v,rfl,h3,hv⟩
 have T:=(h1.trans h2).trans h3
 have hlt:=cell_lt hc
 have hc3:=T.1.cell hc HP.out
 obtain⟨A,c,rfl,hc1,hc2,hA⟩:=hv
 obtain⟨d,i,rfl,hd⟩:=hA (ne_nil_of (n:=n) N.out.symm (by omega))
 rw [←N.out]at hc1
 simp only [←N.out]
 have ck:∀(j:Nat) (hj:j<xs.length),w3.cell? ⟨d,i+j,none⟩=some (.int .u8 (xs[j].toNat:Int)):=hd.cell
 have CK:=Lib.hid ck
 have hdl:=lt_blk hd.choose_spec.1
 have fr3:w3.frozen? p=false:=(T.1.free hlt HP.out).trans hf
 clear hd ck
 have hcap:(n:Int)≤c:=by omega
 go_wp2_with fail
 go_loopg [82] n (fun k s57 wr=>∃j:Nat,j+k=n∧s57=.int .i64 (j:Int)∧New w3 wr∧Fill wr w3.heap.size 22 xs (fun x=>.int .u32 x.toNat) j)
 case atStart=>exact⟨0,by omega,rfl,(Keep.refl _ _).alloc _,Fill.zero (blk_new _ _) (by rw [size_madeCells,N.out])⟩
 case round=>
  obtain⟨j,hj,rfl,kr,fl⟩:=hrel
  cases gk with
  | zero=>
    obtain rfl:j=n:=by omega
    have hcr:=kr.cell hc3 trivial
    have hfr:wr.frozen? p=false:=(kr.free (cell_lt hc3) trivial).trans fr3
    go_wp2
    go_ret
    refine⟨rfl,_,wr,rfl,⟨T.1.trans (kr.keep _),T.2.new kr⟩,?_⟩
    have hw3:w.heap.size≤w3.heap.size:=T.1.size
    rw [N.out]at fl ⊢
    exact fl.out hw3
  | succ k=>
    have hjn:j<n:=by omega
    have tj:decide ((j:Int)<n)=true:=by simpa using hjn
    have e4:(j:Int)<n:=by omega
    have fz:=fl.free j
    obtain⟨u0,hu0⟩:=fl.cell j (by rw [←N.out];exact hjn)
    have hjx:j<xs.length:=by rw [←N.out];exact hjn
    have J:=kr.cell (CK.out j hjx) trivial
    have st:=fl.step hjx
    generalize xs[j]'hjx=y at J st
    have hy:=y.toNat_lt
    have hb1:(y.toNat:Int) % 4294967296=y.toNat:=by omega
    go_wp2
    go_roundg k
    case measure=>omega
    case rel=>
     refine⟨j+1,by omega,congrArg _ (by omega),(kr.setCell (.inl (Nat.le_refl _)) _),?_⟩
     first | exact st | (simpa using st)
theorem arrayInt32_s(g:Nat)(p:Addr)(hpg:p.block≠g)(xs:List UInt8)(hne:0<xs.length)(hmax:xs.length≤65536)(r h:List UInt8)(Hh:Hd 224 240 xs.length (84::xs) h)
 (w:World) (hc:w.cell? p=some (.slice none 0 0)) (hf:w.frozen? p=false) (B:Buf w g (h++(84::xs++r))):
 Calls Tryz.prog 115 #[.pointer (some p),.pointer (some ⟨g,0,none⟩)] w fun e w'=>e=.returned .nilIface∧ArrOut g p r 21 1 (xs.map fun x=>.int .i32 (wrap32 (IntKind.i8.wrap x.toNat))) w w':=by
 have hm:=make_one 332 21 _ _ Tryz.underlying332 info21 rfl (by omega) xs.length hmax
 obtain⟨n,hn⟩:∃n,n=xs.length:=⟨_,rfl⟩
 rw [←hn]at hm hne hmax
 have t1:decide ((0:Int)<n)=true:=by simp;omega
 have N:=Lib.hid hn
 have HP:=Lib.hid hpg
 clear hn hpg
 go_enter Tryz.func115,Tryz.ntmps115
 go_wp2_with fail
 refine(arrayHead g _ _ r h Hh (by rw [List.length_cons];omega) (by rw [←N.out];omega) _ B).mono ?_
 rintro e w1 ⟨rfl,h1⟩
 rw [←N.out]
 have hc1':=h1.1.cell hc HP.out
 go_wp2_with fail
 refine(readType_is g _ _ _ (h1.2)).mono ?_
 rintro e w2 ⟨rfl,h2⟩
 go_wp2_with fail
 refine(buf_Next g xs r _ _ h2.2 (by rw [←N.out])).mono ?_
 rintro e w3 ⟨v,rfl,h3,hv⟩
 have T:=(h1.trans h2).trans h3
 have hlt:=cell_lt hc
 have hc3:=T.1.cell hc HP.out
 obtain⟨A,c,rfl,hc1,hc2,hA⟩:=hv
 obtain⟨d,i,rfl,hd⟩:=hA (ne_nil_of (n:=n) N.out.symm (by omega))
 rw [←N.out]at hc1
 simp only [←N.out]
 have ck:∀(j:Nat) (hj:j<xs.length),w3.cell? ⟨d,i+j,none⟩=some (.int .u8 (xs[j].toNat:Int)):=hd.cell
 have CK:=Lib.hid ck
 have hdl:=lt_blk hd.choose_spec.1
 have fr3:w3.frozen? p=false:=(T.1.free hlt HP.out).trans hf
 clear hd ck
 have hcap:(n:Int)≤c:=by omega
 go_wp2_with fail
 go_loopg [61] n (fun k s57 wr=>∃j:Nat,j+k=n∧s57=.int .i64 (j:Int)∧New w3 wr∧Fill wr w3.heap.size 21 xs (fun x=>.int .i32 (wrap32 (IntKind.i8.wrap x.toNat))) j)
 case atStart=>exact⟨0,by omega,rfl,(Keep.refl _ _).alloc _,Fill.zero (blk_new _ _) (by rw [size_madeCells,N.out])⟩
 case round=>
  obtain⟨j,hj,rfl,kr,fl⟩:=hrel
  cases gk with
  | zero=>
    obtain rfl:j=n:=by omega
    have hcr:=kr.cell hc3 trivial
    have hfr:wr.frozen? p=false:=(kr.free (cell_lt hc3) trivial).trans fr3
    go_wp2
    go_ret
    refine⟨rfl,_,wr,rfl,⟨T.1.trans (kr.keep _),T.2.new kr⟩,?_⟩
    have hw3:w.heap.size≤w3.heap.size:=T.1.size
    rw [N.out]at fl ⊢
    exact fl.out hw3
  | succ k=>
    have hjn:j<n:=by omega
    have tj:decide ((j:Int)<n)=true:=by simpa using hjn
    have e4:(j:Int)<n:=by omega
    have fz:=fl.free j
    obtain⟨u0,hu0⟩:=fl.cell j (by rw [←N.out];exact hjn)
    have hjx:j<xs.length:=by rw [←N.out];exact hjn
    have J:=kr.cell (CK.out j hjx) trivial
    have st:=fl.step hjx
    generalize xs[j]'hjx=y at J st
    have hy:=y.toNat_lt
    have hb1:(y.toNat:Int) % 4294967296=y.toNat:=by omega
    go_wp2
    go_roundg k
    case measure=>omega
    case rel=>
     refine⟨j+1,by omega,congrArg _ (by omega),(kr.setCell (.inl (Nat.le_refl _)) _),?_⟩
     first | exact st | (simpa using st)
theorem arrayUint64_s(g:Nat)(p:Addr)(hpg:p.block≠g)(xs:List UInt8)(hne:0<xs.length)(hmax:xs.length≤65536)(r h:List UInt8)(Hh:Hd 224 240 xs.length (83::xs) h)
 (w:World) (hc:w.cell? p=some (.slice none 0 0)) (hf:w.frozen? p=false) (B:Buf w g (h++(83::xs++r))):
 Calls Tryz.prog 116 #[.pointer (some p),.pointer (some ⟨g,0,none⟩)] w fun e w'=>e=.returned .nilIface∧ArrOut g p r 26 1 (xs.map fun x=>.int .u64 x.toNat) w w':=by
 have hm:=make_one 323 26 _ _ Tryz.underlying323 info26 rfl (by omega) xs.length hmax
 obtain⟨n,hn⟩:∃n,n=xs.length:=⟨_,rfl⟩
 rw [←hn]at hm hne hmax
 have t1:decide ((0:Int)<n)=true:=by simp;omega
 have N:=Lib.hid hn
 have HP:=Lib.hid hpg
 clear hn hpg
 go_enter Tryz.func116,Tryz.ntmps116
 go_wp2_with fail
 refine(arrayHead g _ _ r h Hh (by rw [List.length_cons];omega) (by rw [←N.out];omega) _ B).mono ?_
 rintro e w1 ⟨rfl,h1⟩
 rw [←N.out]
 have hc1':=h1.1.cell hc HP.out
 go_wp2_with fail
 refine(readType_is g _ _ _ (h1.2)).mono ?_
 rintro e w2 ⟨rfl,h2⟩
 go_wp2_with fail
 refine(buf_Next g xs r _ _ h2.2 (by rw [←N.out])).mono ?_
 rintro e w3 ⟨v,rfl,h3,hv⟩
 have T:=(h1.trans h2).trans h3
 have hlt:=cell_lt hc
 have hc3:=T.1.cell hc HP.out
 obtain⟨A,c,rfl,hc1,hc2,hA⟩:=hv
 obtain⟨d,i,rfl,hd⟩:=hA (ne_nil_of (n:=n) N.out.symm (by omega))
 rw [←N.out]at hc1
 simp only [←N.out]
 have ck:∀(j:Nat) (hj:j<xs.length),w3.cell? ⟨d,i+j,none⟩=some (.int .u8 (xs[j].toNat:Int)):=hd.cell
 have CK:=Lib.hid ck
 have hdl:=lt_blk hd.choose_spec.1
 have fr3:w3.frozen? p=false:=(T.1.free hlt HP.out).trans hf
 clear hd ck
 have hcap:(n:Int)≤c:=by omega
 go_wp2_with fail
 go_loopg [82] n (fun k s57 wr=>∃j:Nat,j+k=n∧s57=.int .i64 (j:Int)∧New w3 wr∧Fill wr w3.heap.size 26 xs (fun x=>.int .u64 x.toNat) j)
 case atStart=>exact⟨0,by omega,rfl,(Keep.refl _ _).alloc _,Fill.zero (blk_new _ _) (by rw [size_madeCells,N.out])⟩
 case round=>
  obtain⟨j,hj,rfl,kr,fl⟩:=hrel
  cases gk with
  | zero=>
    obtain rfl:j=n:=by omega
    have hcr:=kr.cell hc3 trivial
    have hfr:wr.frozen? p=false:=(kr.free (cell_lt hc3) trivial).trans fr3
    go_wp2
    go_ret
    refine⟨rfl,_,wr,rfl,⟨T.1.trans (kr.keep _),T.2.new kr⟩,?_⟩
    have hw3:w.heap.size≤w3.heap.size:=T.1.size
    rw [N.out]at fl ⊢
    exact fl.out hw3
  | succ k=>
    have hjn:j<n:=by omega
    have tj:decide ((j:Int)<n)=true:=by simpa using hjn
    have e4:(j:Int)<n:=by omega
    have fz:=fl.free j
    obtain⟨u0,hu0⟩:=fl.cell j (by rw [←N.out];exact hjn)
    have hjx:j<xs.length:=by rw [←N.out];exact hjn
    have J:=kr.cell (CK.out j hjx) trivial
    have st:=fl.step hjx
    generalize xs[j]'hjx=y at J st
    have hy:=y.toNat_lt
    have hb1:(y.toNat:Int) % 4294967296=y.toNat:=by omega
    go_wp2
    go_roundg k
    case measure=>omega
    case rel=>
     refine⟨j+1,by omega,congrArg _ (by omega),(kr.setCell (.inl (Nat.le_refl _)) _),?_⟩
     first | exact st | (simpa using st)
theorem arrayInt64_s(g:Nat)(p:Addr)(hpg:p.block≠g)(xs:List UInt8)(hne:0<xs.length)(hmax:xs.length≤65536)(r h:List UInt8)(Hh:Hd 224 240 xs.length (85::xs) h)
 (w:World) (hc:w.cell? p=some (.slice none 0 0)) (hf:w.frozen? p=false) (B:Buf w g (h++(85::xs++r))):
 Calls Tryz.prog 117 #[.pointer (some p),.pointer (some ⟨g,0,none⟩)] w fun e w'=>e=.returned .nilIface∧ArrOut g p r 2 1 (xs.map fun x=>.int .i64 (wrap64 (IntKind.i8.wrap x.toNat))) w w':=by
 have hm:=make_one 335 2 _ _ Tryz.underlying335 info2 rfl (by omega) xs.length hmax
 obtain⟨n,hn⟩:∃n,n=xs.length:=⟨_,rfl⟩
 rw [←hn]at hm hne hmax
 have t1:decide ((0:Int)<n)=true:=by simp;omega
 have N:=Lib.hid hn
 have HP:=Lib.hid hpg
 clear hn hpg
 go_enter Tryz.func117,Tryz.ntmps117
 go_wp2_with fail
 refine(arrayHead g _ _ r h Hh (by rw [List.length_cons];omega) (by rw [←N.out];omega) _ B).mono ?_
 rintro e w1 ⟨rfl,h1⟩
 rw [←N.out]
 have hc1':=h1.1.cell hc HP.out
 go_wp2_with fail
 refine(readType_is g _ _ _ (h1.2)).mono ?_
 rintro e w2 ⟨rfl,h2⟩
 go_wp2_with fail
 refine(buf_Next g xs r _ _ h2.2 (by rw [←N.out])).mono ?_
 rintro e w3 ⟨v,rfl,h3,hv⟩
 have T:=(h1.trans h2).trans h3
 have hlt:=cell_lt hc
 have hc3:=T.1.cell hc HP.out
 obtain⟨A,c,rfl,hc1,hc2,hA⟩:=hv
 obtain⟨d,i,rfl,hd⟩:=hA (ne_nil_of (n:=n) N.out.symm (by omega))
 rw [←N.out]at hc1
 simp only [←N.out]
 have ck:∀(j:Nat) (hj:j<xs.length),w3.cell? ⟨d,i+j,none⟩=some (.int .u8 (xs[j].toNat:Int)):=hd.cell
 have CK:=Lib.hid ck
 have hdl:=lt_blk hd.choose_spec.1
 have fr3:w3.frozen? p=false:=(T.1.free hlt HP.out).trans hf
 clear hd ck
 have hcap:(n:Int)≤c:=by omega
 go_wp2_with fail
 go_loopg [61] n (fun k s57 wr=>∃j:Nat,j+k=n∧s57=.int .i64 (j:Int)∧New w3 wr∧Fill wr w3.heap.size 2 xs (fun x=>.int .i64 (wrap64 (IntKind.i8.wrap x.toNat))) j)
 case atStart=>exact⟨0,by omega,rfl,(Keep.refl _ _).alloc _,Fill.zero (blk_new _ _) (by rw [size_madeCells,N.out])⟩
 case round=>
  obtain⟨j,hj,rfl,kr,fl⟩:=hrel
  cases gk with
  | zero=>
    obtain rfl:j=n:=by omega
    have hcr:=kr.cell hc3 trivial
    have hfr:wr.frozen? p=false:=(kr.free (cell_lt hc3) trivial).trans fr3
    go_wp2
    go_ret
    refine⟨rfl,_,wr,rfl,⟨T.1.trans (kr.keep _),T.2.new kr⟩,?_⟩
    have hw3:w.heap.size≤w3.heap.size:=T.1.size
    rw [N.out]at fl ⊢
    exact fl.out hw3
  | succ k=>
    have hjn:j<n:=by omega
    have tj:decide ((j:Int)<n)=true:=by simpa using hjn
    have e4:(j:Int)<n:=by omega
    have fz:=fl.free j
    obtain⟨u0,hu0⟩:=fl.cell j (by rw [←N.out];exact hjn)
    have hjx:j<xs.length:=by rw [←N.out];exact hjn
    have J:=kr.cell (CK.out j hjx) trivial
    have st:=fl.step hjx
    generalize xs[j]'hjx=y at J st
    have hy:=y.toNat_lt
    have hb1:(y.toNat:Int) % 4294967296=y.toNat:=by omega
    go_wp2
    go_roundg k
    case measure=>omega
    case rel=>
     refine⟨j+1,by omega,congrArg _ (by omega),(kr.setCell (.inl (Nat.le_refl _)) _),?_⟩
     first | exact st | (simpa using st)
theorem info4:(Tryz.prog.info? 4).map (fun i=>(i.zero,i.size,i.bytes))=some (some (.bool false),1,1):=by kernel_rfl
theorem arrayBool_is(g:Nat)(p:Addr)(hpg:p.block≠g)(xs:List UInt8)(hne:0<xs.length)(hmax:xs.length≤65536)(r h:List UInt8)(Hh:Hd 224 240 xs.length (86::xs) h)
 (w:World) (hc:w.cell? p=some (.slice none 0 0)) (hf:w.frozen? p=false) (B:Buf w g (h++(86::xs++r))):
 Calls Tryz.prog 120 #[.pointer (some p),.pointer (some ⟨g,0,none⟩)] w fun e w'=>e=.returned .nilIface∧ArrOut g p r 4 1 (xs.map fun x=>.bool (x !=0)) w w':=by
 have hm:=make_one 313 4 _ _ Tryz.underlying313 info4 rfl (by omega) xs.length hmax
 obtain⟨n,hn⟩:∃n,n=xs.length:=⟨_,rfl⟩
 rw [←hn]at hm hne hmax
 have t1:decide ((0:Int)<n)=true:=by simp;omega
 have N:=Lib.hid hn
 have HP:=Lib.hid hpg
 clear hn hpg
 go_enter Tryz.func120,Tryz.ntmps120
 go_wp2_with fail
 refine(arrayHead g _ _ r h Hh (by rw [List.length_cons];omega) (by rw [←N.out];omega) _ B).mono ?_
 rintro e w1 ⟨rfl,h1⟩
 rw [←N.out]
 have hc1':=h1.1.cell hc HP.out
 go_wp2_with fail
 have kA:New w1 (w1.alloc (.cells (madeCells #[.bool false] n) 4)):=(Keep.refl _ w1).alloc _
 refine(readType_is g _ _ _ (h1.2.new kA)).mono ?_
 rintro e w2 ⟨rfl,h2⟩
 go_wp2_with fail
 refine(buf_Next g xs r _ _ h2.2 (by rw [←N.out])).mono ?_
 rintro e w3 ⟨v,rfl,h3,hv⟩
 have hgl:=h1.2.lt
 have T:=(((h1.trans (Adv.look h1.2 kA)).trans h2).trans h3)
 have hB3:=(h2.1.trans h3.1).blk (blk_new w1 _) (show w1.heap.size≠g by omega)
 have hlt:=cell_lt hc
 have hc3:=T.1.cell hc HP.out
 have hws:=h1.1.size
 obtain⟨A,c,rfl,hc1,hc2,hA⟩:=hv
 obtain⟨d,i,rfl,hd⟩:=hA (ne_nil_of (n:=n) N.out.symm (by omega))
 rw [←N.out]at hc1
 simp only [←N.out]
 have hdB:d≠w1.heap.size:=by
  rintro rfl
  obtain⟨cs,hcs,_⟩:=hd
  rw [hB3]at hcs
  cases hcs
 have ck:∀(j:Nat) (hj:j<xs.length),w3.cell? ⟨d,i+j,none⟩=some (.int .u8 (xs[j].toNat:Int)):=hd.cell
 have CK:=Lib.hid ck
 have fr3:w3.frozen? p=false:=(T.1.free hlt HP.out).trans hf
 have HB3:=Lib.hid hB3
 have HDB:=Lib.hid hdB
 clear hd ck hB3 hdB
 have hcap:(n:Int)≤c:=by omega
 go_wp2_with fail
 go_loopg [59] n (fun k s57 wr=>∃j:Nat,j+k=n∧s57=.int .i64 (j:Int)∧Keep (fun k=>k≠w1.heap.size) w3 wr∧Fill wr w1.heap.size 4 xs (fun x=>.bool (x !=0)) j)
 case atStart=>exact⟨0,by omega,rfl,Keep.refl _ _,Fill.zero HB3.out (by rw [size_madeCells,N.out])⟩
 case round=>
  obtain⟨j,hj,rfl,kr,fl⟩:=hrel
  cases gk with
  | zero=>
    obtain rfl:j=n:=by omega
    have hcr:=kr.cell hc3 (by omega)
    have hfr:wr.frozen? p=false:=(kr.free (cell_lt hc3) (by omega)).trans fr3
    go_wp2
    go_ret
    refine⟨rfl,_,wr,rfl,⟨T.1.then kr (fun i hi _=>by omega),T.2.keep kr (fun i hi=>by omega)⟩,?_⟩
    rw [N.out]at fl ⊢
    exact fl.out hws
  | succ k=>
    have hjn:j<n:=by omega
    have tj:decide ((j:Int)<n)=true:=by simpa using hjn
    have e4:(j:Int)<n:=by omega
    have fz:=fl.free j
    obtain⟨u0,hu0⟩:=fl.cell j (by rw [←N.out];exact hjn)
    have hjx:j<xs.length:=by rw [←N.out];exact hjn
    have J:=kr.cell (CK.out j hjx) HDB.out
    have st:=fl.step hjx
    generalize xs[j]'hjx=y at J st
    have hy:=y.toNat_lt
    by_cases hy0:y=0
    ·subst hy0
     have ty:(((0:UInt8).toNat:Int)==0)=true:=rfl
     go_wp2
     go_roundg k
     case measure=>omega
     case rel=>exact⟨j+1,by omega,congrArg _ (by omega),kr.setCell (.inr (fun h=>h rfl)) _,st⟩
    ·have hyn:y.toNat≠0:=fun h=>hy0 (UInt8.toNat.inj h)
     have ty:((y.toNat:Int)==0)=false:=by rw [beq_eq_false_iff_ne];omega
     have tb:(y !=0)=true:=by simpa using hy0
     rw [tb]at st
     clear tb hy0 hyn
     go_wp2
     go_roundg k
     case measure=>omega
     case rel=>exact⟨j+1,by omega,congrArg _ (by omega),kr.setCell (.inr (fun h=>h rfl)) _,st⟩
theorem arrayUbyte_is(g:Nat)(p:Addr)(hpg:p.block≠g)(xs:List UInt8)(hne:0<xs.length)(hmax:xs.length≤65536)(r h:List UInt8)(Hh:Hd 224 240 xs.length (80::xs) h)
 (w:World) (hc:w.cell? p=some (.slice none 0 0)) (hf:w.frozen? p=false) (B:Buf w g (h++(80::xs++r))):
 Calls Tryz.prog 232 #[.pointer (some p),.pointer (some ⟨g,0,none⟩)] w fun e w'=>e=.returned .nilIface∧
  ∃sl w1,w'=w1.setCell p sl∧Adv g r w w1∧Dep (fun k=>w.heap.size≤k) w1 (fun w=>SlB w sl xs):=by
 have HP:=Lib.hid hpg
 have HN:xs≠[]:=List.length_pos_iff.1 hne
 have HNE:=Lib.hid HN
 clear hpg HN
 go_enter Tryz.func232,Tryz.ntmps232
 go_wp2_with fail
 refine(arrayHead g _ _ r h Hh (by rw [List.length_cons];omega) hmax _ B).mono ?_
 rintro e w1 ⟨rfl,h1⟩
 go_wp2_with fail
 refine(readType_is g _ _ _ h1.2).mono ?_
 rintro e w2 ⟨rfl,h2⟩
 go_wp2_with fail
 refine(buf_Next g xs r _ _ h2.2 rfl).mono ?_
 rintro e w3 ⟨v,rfl,h3,hv⟩
 have T:=(h1.trans h2).trans h3
 have hlt:=cell_lt hc
 have hc3:=T.1.cell hc HP.out
 have fr3:w3.frozen? p=false:=(T.1.free hlt HP.out).trans hf
 obtain⟨c,more,ha,hc1,hc2⟩:=append_fresh w3 v xs hv HNE.out (by omega)
 have hc4:=cell_alloc hc3 (.cells ((xs.map fun x=>Value.int .u8 (x.toNat:Int)).toArray++more) 5)
 have kk:New w3 (w3.drew.alloc (.cells ((xs.map fun x=>Value.int .u8 (x.toNat:Int)).toArray++more) 5)):=((Keep.refl _ w3).drew).alloc _
 have fr4:(w3.alloc (.cells ((xs.map fun x=>Value.int .u8 (x.toNat:Int)).toArray++more) 5)).frozen? p=false:=(((Keep.refl (fun _=>True) w3).alloc _).free (cell_lt hc3) trivial).trans fr3
 go_wp2_with (at_builtin;refine wpList_append_eq rfl _ _ 27 rfl _ _ _ _ rfl rfl ha ?_)
 go_ret
 exact⟨rfl,_,_,rfl,⟨T.1.trans (kk.keep _),T.2.new kk⟩,dep_front c hc1 hc2 T.1.size (blk_new _ _)⟩
section
variable {α:Type}
def FillS(w:World)(B:Nat)(et:TypeId)(sz:Nat)(xs:List α)(F:α→List Value)(k:Nat):Prop:=
 ∃cs,w.heap[B]? =some (.cells cs et (0,0))∧cs.size=xs.length*sz∧∀j (hj:j<xs.length),j<k→∀q,q<sz→cs[j*sz+q]? =(F xs[j])[q]?
theorem FillS.zero{w:World}{B:Nat}{et:TypeId}{sz:Nat}{xs:List α}{F:α→List Value}{cs:Array Value}(h:w.heap[B]? =some (.cells cs et (0,0)))(hs:cs.size=xs.length*sz):FillS w B et sz xs F 0:=⟨cs,h,hs,fun _ _ h=>absurd h (by omega)⟩
theorem FillS.keep{ok:Nat→Prop}{w w':World}{B:Nat}{et:TypeId}{sz:Nat}{xs:List α}{F:α→List Value}{k:Nat}(h:FillS w B et sz xs F k)(kp:Keep ok w w')(ho:ok B):FillS w' B et sz xs F k:=by
 obtain⟨cs,hb,hr⟩:=h
 exact⟨cs,kp.blk hb ho,hr⟩
theorem FillS.step{w w':World}{B:Nat}{et:TypeId}{sz:Nat}{xs:List α}{F:α→List Value}{k:Nat}(h:FillS w B et sz xs F k)(hk:k<xs.length)
 (hw:∀cs,w.heap[B]? =some (.cells cs et (0,0))→∃cs',w'.heap[B]? =some (.cells cs' et (0,0))∧cs'.size=cs.size∧(∀i,(i<k*sz∨k*sz+sz≤i)→cs'[i]? =cs[i]?)∧(cs.size=xs.length*sz→∀q,q<sz→cs'[k*sz+q]? =(F xs[k])[q]?)):
 FillS w' B et sz xs F (k+1):=by
 obtain⟨cs,hb,hs,hr⟩:=h
 obtain⟨cs',hb',hs',ho,hn⟩:=hw cs hb
 refine⟨cs',hb',hs'.trans hs,fun j hj hjk q hq=>?_⟩
 by_cases e:j=k
 ·subst e;exact hn hs q hq
 ·have hlt:j<k:=by omega
  have:=Nat.mul_le_mul_right sz (show j+1≤k by omega)
  rw [Nat.add_mul]at this
  rw [ho _ (.inl (by omega))]
  exact hr j hj hlt q hq
theorem flatF{sz:Nat}{F:α→List Value}(hF:∀x,(F x).length=sz):∀(xs:List α),((xs.map F).flatten).length=xs.length*sz∧∀j (hj:j<xs.length) q,q<sz→((xs.map F).flatten)[j*sz+q]? =(F xs[j])[q]?
 | []=>⟨by simp,fun j hj=>absurd hj (by simp)⟩
 | x::xs=>by
   obtain⟨h1,h2⟩:=flatF hF xs
   refine⟨by simp only [List.map_cons,List.flatten_cons,List.length_append,h1,hF,List.length_cons,Nat.add_mul];omega,fun j hj q hq=>?_⟩
   rw [List.map_cons,List.flatten_cons]
   cases j with
   | zero=>
     rw [Nat.zero_mul,Nat.zero_add,List.getElem?_append_left (by rw [hF];exact hq)]
     rfl
   | succ j=>
     rw [List.getElem?_append_right (by rw [hF,Nat.add_mul];omega),hF,show(j+1)*sz+q-sz=j*sz+q by rw [Nat.add_mul];omega]
     exact h2 j (by simpa using hj) q hq
theorem FillS.all{w:World}{B:Nat}{et:TypeId}{sz:Nat}{xs:List α}{F:α→List Value}(hF:∀x,(F x).length=sz)(h:FillS w B et sz xs F xs.length):w.heap[B]? =some (.cells ((xs.map F).flatten).toArray et (0,0)):=by
 obtain⟨cs,hb,hs,hr⟩:=h
 obtain⟨h1,h2⟩:=flatF hF xs
 rw [hb]
 congr 2
 apply Array.ext
 ·simpa [h1]using hs
 ·intro i hi1 hi2
  have hz:0<sz:=by
   rcases Nat.eq_zero_or_pos sz with h | h
   ·rw [h,Nat.mul_zero]at hs;omega
   ·exact h
  have e:i/sz*sz+i % sz=i:=by rw [Nat.mul_comm];exact Nat.div_add_mod i sz
  have hj:i/sz<xs.length:=Nat.div_lt_of_lt_mul (by rw [Nat.mul_comm];omega)
  have a:=hr (i/sz) hj hj (i % sz) (Nat.mod_lt _ hz)
  have b:=h2 (i/sz) hj (i % sz) (Nat.mod_lt _ hz)
  rw [e]at a b
  have c:=a.trans b.symm
  rw [Array.getElem?_eq_getElem hi1,List.getElem?_eq_getElem (by simpa using hi2)]at c
  simpa using Option.some.inj c
theorem FillS.free{w:World}{B:Nat}{et:TypeId}{sz:Nat}{xs:List α}{F:α→List Value}{k:Nat}(h:FillS w B et sz xs F k)(i:Nat):w.frozen? ⟨B,i,none⟩=false:=by
 obtain⟨cs,hb,_⟩:=h
 exact blk_free hb i
theorem FillS.cell{w:World}{B:Nat}{et:TypeId}{sz:Nat}{xs:List α}{F:α→List Value}{k:Nat}(h:FillS w B et sz xs F k)(i:Nat)(hi:i<xs.length*sz):∃u,w.cell? ⟨B,i,none⟩=some u:=by
 obtain⟨cs,hb,hs,_⟩:=h
 rw [blk_cell hb]
 exact⟨cs[i]'(by rw [hs];exact hi),Array.getElem?_eq_getElem (by rw [hs];exact hi)⟩
theorem FillS.out{w:World}{B:Nat}{et:TypeId}{sz:Nat}{xs:List α}{F:α→List Value}{ok:Nat→Prop}(hF:∀x,(F x).length=sz)(h:FillS w B et sz xs F xs.length)(ho:ok B):Dep ok w (fun w=>SlX w et sz (.slice (some ⟨B,0,none⟩) xs.length xs.length) (xs.map F).flatten):=
 (Dep.blk (h.all hF) ho).imp fun _ h'=>⟨B,xs.length,rfl,(flatF hF xs).1,h'⟩
end
theorem make_many(st et:TypeId)(z:Value)(sz b:Nat)(hu:Tryz.prog.underlying st=some (.slice et))(hi:(Tryz.prog.info? et).map (fun i=>(i.zero,i.size,i.bytes))=some (some z,sz,b))(hb:b≤4096)(n:Nat)(hn:n≤65536)(u:World):
 (Instr.makeSlice st (.int .i64 (n:Int)) (.int .i64 (n:Int))).run Tryz.prog u=.ok (.slice (some ⟨u.heap.size,0,none⟩) n n) (u.alloc (.cells (madeCells z.cells (n*sz)) et)):=by
 obtain⟨i0,hi,hz0,hz1,hz2⟩:=info_parts hi
 have hbn:((b*n:Nat):Int)≤((4096*65536:Nat):Int):=Int.ofNat_le.2 (Nat.mul_le_mul hb hn)
 rw [Int.natCast_mul]at hbn
 have h:=run_make (P:=Tryz.prog) u st et i0 z hu hi hz0 .i64 .i64 n n (by omega) (Int.le_refl _) (by rw [hz2];omega) (by omega)
 rw [hz1]at h
 simpa using h
theorem info228:(Tryz.prog.info? 228).map (fun i=>(i.zero,i.size,i.bytes))=some (some (.agg #[.int .i64 0,.int .i64 0]),2,16):=by kernel_rfl
theorem wrap64_in(n:Int):-9223372036854775808≤wrap64 n∧wrap64 n≤9223372036854775807:=by unfold wrap64;omega
theorem wrap64_tdiv(m:Int)(h:-9223372036854775808≤m∧m≤9223372036854775807):wrap64 (m.tdiv 1000)=m.tdiv 1000:=by
 have:-9223372036854775808≤m.tdiv 1000∧m.tdiv 1000≤9223372036854775807:=by
  by_cases h0:m<0
  ·rw [(tdiv_neg_pos m 1000 (by omega) h0).1];omega
  ·rw [Int.tdiv_eq_ediv_of_nonneg (by omega)];omega
 unfold wrap64;omega
theorem wrap64_tmod(m:Int):wrap64 (m.tmod 1000*1000000)=m.tmod 1000*1000000:=by
 have:=Int.tmod_lt_of_pos m (show(0:Int)<1000 by omega)
 have:=Int.lt_tmod_of_pos m (show(0:Int)<1000 by omega)
 unfold wrap64;omega
def timeC(ms:Int):List Value:=[.int .i64 (ms/1000),.int .i64 (ms % 1000*1000000)]
theorem arrayTime_is(g:Nat)(p:Addr)(hpg:p.block≠g)(xs:List (List UInt8))(hx:∀x∈xs,x.length=8)(hne:0<xs.length)(hmax:xs.length≤65536)(r h:List UInt8)(Hh:Hd 224 240 xs.length (131::xs.flatten) h)
 (w:World) (hc:w.cell? p=some (.slice none 0 0)) (hf:w.frozen? p=false) (B:Buf w g (h++(131::xs.flatten++r))):
 Calls Tryz.prog 124 #[.pointer (some p),.pointer (some ⟨g,0,none⟩)] w fun e w'=>e=.returned .nilIface∧ArrOut g p r 228 2 (xs.map fun x=>timeC (wrap64 (Lib.beNat x))).flatten w w':=by
 have hfl:=flat_len hx
 have hm:=make_many 343 228 _ 2 16 Tryz.underlying343 info228 (by omega) xs.length hmax
 obtain⟨n,hn⟩:∃n,n=xs.length:=⟨_,rfl⟩
 rw [←hn]at hm hne hmax
 have t1:decide ((0:Int)<n)=true:=by simp;omega
 have w1:IntKind.i64.wrap ((n:Int)*8)=n*8:=IntWalk.i64_in _ (by omega)
 have N:=Lib.hid hn
 have FL:=Lib.hid hfl
 have HX:=Lib.hid hx
 have HP:=Lib.hid hpg
 clear hn hfl hx hpg
 go_enter Tryz.func124,Tryz.ntmps124
 go_wp2_with fail
 refine(arrayHead g _ _ r h Hh (by rw [List.length_cons,FL.out];omega) (by rw [←N.out];omega) _ B).mono ?_
 rintro e w1 ⟨rfl,h1⟩
 rw [←N.out]
 have hc1':=h1.1.cell hc HP.out
 go_wp2_with fail
 refine(readType_is g _ _ _ h1.2).mono ?_
 rintro e w2 ⟨rfl,h2⟩
 go_wp2_with fail
 refine(buf_Next g xs.flatten r _ _ h2.2 (by rw [FL.out,←N.out];omega)).mono ?_
 rintro e w3 ⟨v,rfl,h3,hv⟩
 have T:=(h1.trans h2).trans h3
 have hlt:=cell_lt hc
 have hc3:=T.1.cell hc HP.out
 obtain⟨A,c,rfl,hc1,hc2,hA⟩:=hv
 obtain⟨d,i,rfl,hd⟩:=hA (ne_nil_of (n:=8*n) (by rw [FL.out,N.out]) (by omega))
 have hl:xs.flatten.length=8*n:=by rw [FL.out,N.out]
 rw [hl]at hc1
 simp only [hl]
 have ck:∀(j:Nat) (hj:j<xs.length),BytesAt w3 d (i+8*j) xs[j]:=chunk_at HX.out hd
 have CK:=Lib.hid ck
 have hdl:=lt_blk hd.choose_spec.1
 have fr3:w3.frozen? p=false:=(T.1.free hlt HP.out).trans hf
 clear hd ck hl
 have hcap:(8*n:Int)≤c:=by omega
 go_wp2_with fail
 go_loopg [11,58] n (fun k s11 s57 wr=>∃j:Nat,j+k=n∧s11=.int .i64 (8*(j:Int))∧s57=.int .i64 (j:Int)∧New w3 wr∧FillS wr w3.heap.size 228 2 xs (fun x=>timeC (wrap64 (Lib.beNat x))) j)
 case atStart=>exact⟨0,by omega,rfl,rfl,(Keep.refl _ _).alloc _,FillS.zero (blk_new _ _) (by rw [size_madeCells,N.out])⟩
 case round=>
  obtain⟨j,hj,rfl,rfl,kr,fl⟩:=hrel
  cases gk with
  | zero=>
    obtain rfl:j=n:=by omega
    have hcr:=kr.cell hc3 trivial
    have hfr:wr.frozen? p=false:=(kr.free (cell_lt hc3) trivial).trans fr3
    go_wp2
    go_ret
    refine⟨rfl,_,wr,rfl,⟨T.1.trans (kr.keep _),T.2.new kr⟩,?_⟩
    have hw3:=T.1.size
    rw [N.out]at fl ⊢
    exact fl.out (fun _=>rfl) hw3
  | succ k=>
    have hjn:j<n:=by omega
    have tj:decide ((j:Int)<n)=true:=by simpa using hjn
    have e1:(0:Int)≤8*(j:Int):=by omega
    have e2:j≤n:=by omega
    have e3:¬c=8*j:=by omega
    have e4:(j:Int)<n:=by omega
    have tn:(8*(j:Int)).toNat=8*j:=by omega
    have e5:8≤8*n-8*j:=by omega
    have hjx:j<xs.length:=by rw [←N.out];exact hjn
    obtain⟨y,hy⟩:∃y,y=xs[j]'hjx:=⟨_,rfl⟩
    have J:=CK.out j hjx
    have J2:=HX.out _ (List.getElem_mem hjx)
    rw [←hy]at J J2
    have HY:=Lib.hid hy
    clear hy
    have J3:=J.of_blk ((kr.drew).block d hdl trivial)
    go_wp2_with fail
    go_region_held3 (fun _=>True) (first | go_keep | trivial)
     (first | (go_at_call 195;refine(be_Uint64' d (i+8*j) (8*n-8*j) (c-8*j) y _ J2 e5 J3).mono ?_;rintro e w4 ⟨rfl,k4⟩;have fz4:=((kr.drew).trans k4);have fl4:=fl.keep (((Keep.refl _ wr).drew).trans k4) trivial))
    go_wp2_with fail
    refine(at_milli (wrap64 (Lib.beNat y)) _ _ _ (wrap64_tdiv _ (wrap64_in _)) (wrap64_tmod _) (wrap64_in _).1 (wrap64_in _).2).mono ?_
    rintro e w5 ⟨rfl,k5⟩
    go_wp2_with fail
    refine(utc_is _ _).mono ?_
    rintro e w6 ⟨rfl,k6⟩
    have k46:=k5.trans k6
    have fl6:=fl4.keep k46 trivial
    have fz0:=fl6.free (j*2)
    have fz1:=fl6.free (j*2+1)
    obtain⟨u0,hu0⟩:=fl6.cell (j*2) (by rw [←N.out];omega)
    obtain⟨u1,hu1⟩:=fl6.cell (j*2+1) (by rw [←N.out];omega)
    simp only [timeV]
    go_wp2
    go_roundg k
    case measure=>omega
    case rel=>
     refine⟨j+1,by omega,congrArg _ (by omega),congrArg _ (by omega),((fz4.trans k46).setCell (.inl (Nat.le_refl _)) _).setCell (.inl (Nat.le_refl _)) _,?_⟩
     refine fl6.step hjx (fun cs hcs=>⟨_,blk_set (blk_set hcs _ _) _ _,by simp,fun i hi=>?_,fun hsz q hq=>?_⟩)
     ·rw [Array.getElem?_setIfInBounds_ne (by omega),Array.getElem?_setIfInBounds_ne (by omega)]
     ·rw [←HY.out]
      match q,hq with
      | 0,_=>
        rw [Array.getElem?_setIfInBounds_ne (by omega),Nat.add_zero,Array.getElem?_setIfInBounds_self_of_lt (by omega)]
        rfl
      | 1,_=>
        rw [Array.getElem?_setIfInBounds_self_of_lt (by rw [Array.size_setIfInBounds];omega)]
        rfl
theorem info309:(Tryz.prog.info? 309).map (fun i=>(i.zero,i.size,i.bytes))=some (some (.agg (Array.replicate 16 (.int .u8 0))),16,16):=by kernel_rfl
theorem size5:(Tryz.prog.info? 5).map (·.size)=some 1:=by kernel_rfl
def uuidC(l:List UInt8):List Value:=l.map fun x=>Value.int .u8 (x.toNat:Int)
theorem bytes_src{w:World}{d i:Nat}{l:List UInt8}(h:BytesAt w d i l):∀q v,(uuidC l)[q]? =some v→w.cell? ((⟨d,i,none⟩:Addr).add q)=some v:=fun q v hq=>by
 have hql:q<l.length:=by
  rcases Nat.lt_or_ge q l.length with h | h
  ·exact h
  ·simp [uuidC,List.getElem?_eq_none h]at hq
 have hplain:(⟨d,i,none⟩:Addr).add q=⟨d,i+q,none⟩:=by unfold Addr.add;split<;>simp_all
 rw [hplain,h.cell q hql]
 simpa [uuidC,hql]using hq
theorem copy16_run(w:World)(g off dcap d i sc:Nat)(l:List UInt8)(hl:l.length=16)(hb:BytesAt w d i l)(cur:Array Value)(t:TypeId)(hg:w.heap[g]? =some (.cells cur t (0,0)))(hcur:off+16≤cur.size):
 ∃w',(Builtin.copy_ #[27,27] 3 #[.slice (some ⟨g,off,none⟩) 16 dcap,.slice (some ⟨d,i,none⟩) 16 sc]).run Tryz.prog w=.ok (goInt 16) w'∧
  w'.heap[g]? =some (.cells (cur.toList.take off++uuidC l++cur.toList.drop (off+16)).toArray t (0,0))∧Keep (fun k=>k≠g) w w':=by
 have hlm:(uuidC l).length=16:=by simp [uuidC,hl]
 have h:=run_copy_row (P:=Tryz.prog) w 27 27 3 5 g off 16 dcap ⟨d,i,none⟩ 16 sc cur t (uuidC l) Tryz.underlying27 size5 hg (by rw [hlm];rfl) (bytes_src hb) (by rw [hlm];exact hcur) (by simp [uuidC,Value.oneCell'])
 rw [hlm]at h
 exact⟨_,h,setRow_heap w g cur _ t _ hg,⟨rfl,rfl,rfl,by simp [World.setRow],fun k _ hk=>setRow_other w g k _ hk⟩⟩
section
variable {α:Type}
theorem flatF'{sz:Nat}{F:α→List Value}:∀(xs:List α),(∀x∈xs,(F x).length=sz)→((xs.map F).flatten).length=xs.length*sz∧∀j (hj:j<xs.length) q,q<sz→((xs.map F).flatten)[j*sz+q]? =(F xs[j])[q]?
 | [],_=>⟨by simp,fun j hj=>absurd hj (by simp)⟩
 | x::xs,hF=>by
   obtain⟨h1,h2⟩:=flatF' xs (fun y hy=>hF y (List.mem_cons_of_mem _ hy))
   have hx:=hF x (List.mem_cons_self ..)
   refine⟨by simp only [List.map_cons,List.flatten_cons,List.length_append,h1,hx,List.length_cons,Nat.add_mul];omega,fun j hj q hq=>?_⟩
   rw [List.map_cons,List.flatten_cons]
   cases j with
   | zero=>
     rw [Nat.zero_mul,Nat.zero_add,List.getElem?_append_left (by rw [hx];exact hq)]
     rfl
   | succ j=>
     rw [List.getElem?_append_right (by rw [hx,Nat.add_mul];omega),hx,show(j+1)*sz+q-sz=j*sz+q by rw [Nat.add_mul];omega]
     exact h2 j (by simpa using hj) q hq
theorem FillS.out'{w:World}{B:Nat}{et:TypeId}{sz:Nat}{xs:List α}{F:α→List Value}{ok:Nat→Prop}(hF:∀x∈xs,(F x).length=sz)(h:FillS w B et sz xs F xs.length)(ho:ok B):Dep ok w (fun w=>SlX w et sz (.slice (some ⟨B,0,none⟩) xs.length xs.length) (xs.map F).flatten):=by
 obtain⟨cs,hb,hs,hr⟩:=h
 obtain⟨h1,h2⟩:=flatF' xs hF
 have hall:w.heap[B]? =some (.cells ((xs.map F).flatten).toArray et (0,0)):=by
  rw [hb]
  congr 2
  apply Array.ext
  ·simpa [h1]using hs
  ·intro i hi1 hi2
   have hz:0<sz:=by
    rcases Nat.eq_zero_or_pos sz with h | h
    ·rw [h,Nat.mul_zero]at hs;omega
    ·exact h
   have e:i/sz*sz+i % sz=i:=by rw [Nat.mul_comm];exact Nat.div_add_mod i sz
   have hj:i/sz<xs.length:=Nat.div_lt_of_lt_mul (by rw [Nat.mul_comm];omega)
   have a:=hr (i/sz) hj hj (i % sz) (Nat.mod_lt _ hz)
   have b:=h2 (i/sz) hj (i % sz) (Nat.mod_lt _ hz)
   rw [e]at a b
   have c:=a.trans b.symm
   rw [Array.getElem?_eq_getElem hi1,List.getElem?_eq_getElem (by simpa using hi2)]at c
   simpa using Option.some.inj c
 exact(Dep.blk hall ho).imp fun _ h'=>⟨B,xs.length,rfl,h1,h'⟩
end
theorem arrayUUID_is(g:Nat)(p:Addr)(hpg:p.block≠g)(xs:List (List UInt8))(hx:∀x∈xs,x.length=16)(hne:0<xs.length)(hmax:xs.length≤65536)(r h:List UInt8)(Hh:Hd 224 240 xs.length (152::xs.flatten) h)
 (w:World) (hc:w.cell? p=some (.slice none 0 0)) (hf:w.frozen? p=false) (B:Buf w g (h++(152::xs.flatten++r))):
 Calls Tryz.prog 126 #[.pointer (some p),.pointer (some ⟨g,0,none⟩)] w fun e w'=>e=.returned .nilIface∧ArrOut g p r 309 16 (xs.map fun x=>uuidC x).flatten w w':=by
 have hfl:=flat_len hx
 have hm:=make_many 346 309 _ 16 16 Tryz.underlying346 info309 (by omega) xs.length hmax
 obtain⟨n,hn⟩:∃n,n=xs.length:=⟨_,rfl⟩
 rw [←hn]at hm hne hmax
 have t1:decide ((0:Int)<n)=true:=by simp;omega
 have w1:IntKind.i64.wrap ((n:Int)*16)=n*16:=IntWalk.i64_in _ (by omega)
 have N:=Lib.hid hn
 have FL:=Lib.hid hfl
 have HX:=Lib.hid hx
 have HP:=Lib.hid hpg
 clear hn hfl hx hpg
 go_enter Tryz.func126,Tryz.ntmps126
 go_wp2_with fail
 refine(arrayHead g _ _ r h Hh (by rw [List.length_cons,FL.out];omega) (by rw [←N.out];omega) _ B).mono ?_
 rintro e w1 ⟨rfl,h1⟩
 rw [←N.out]
 have hc1':=h1.1.cell hc HP.out
 go_wp2_with fail
 refine(readType_is g _ _ _ h1.2).mono ?_
 rintro e w2 ⟨rfl,h2⟩
 go_wp2_with fail
 refine(buf_Next g xs.flatten r _ _ h2.2 (by rw [FL.out,←N.out];omega)).mono ?_
 rintro e w3 ⟨v,rfl,h3,hv⟩
 have T:=(h1.trans h2).trans h3
 have hlt:=cell_lt hc
 have hc3:=T.1.cell hc HP.out
 obtain⟨A,c,rfl,hc1,hc2,hA⟩:=hv
 obtain⟨d,i,rfl,hd⟩:=hA (ne_nil_of (n:=16*n) (by rw [FL.out,N.out]) (by omega))
 have hl:xs.flatten.length=16*n:=by rw [FL.out,N.out]
 rw [hl]at hc1
 simp only [hl]
 have ck:∀(j:Nat) (hj:j<xs.length),BytesAt w3 d (i+16*j) xs[j]:=chunk_at HX.out hd
 have CK:=Lib.hid ck
 have hdl:=lt_blk hd.choose_spec.1
 have fr3:w3.frozen? p=false:=(T.1.free hlt HP.out).trans hf
 clear hd ck hl
 have hcap:(16*n:Int)≤c:=by omega
 go_wp2_with fail
 go_loopg [11,57] n (fun k s11 s57 wr=>∃j:Nat,j+k=n∧s11=.int .i64 (16*(j:Int))∧s57=.int .i64 (j:Int)∧New w3 wr∧FillS wr w3.heap.size 309 16 xs (fun x=>uuidC x) j)
 case atStart=>exact⟨0,by omega,rfl,rfl,(Keep.refl _ _).alloc _,FillS.zero (blk_new _ _) (by rw [size_madeCells,N.out])⟩
 case round=>
  obtain⟨j,hj,rfl,rfl,kr,fl⟩:=hrel
  cases gk with
  | zero=>
    obtain rfl:j=n:=by omega
    have hcr:=kr.cell hc3 trivial
    have hfr:wr.frozen? p=false:=(kr.free (cell_lt hc3) trivial).trans fr3
    go_wp2
    go_ret
    refine⟨rfl,_,wr,rfl,⟨T.1.trans (kr.keep _),T.2.new kr⟩,?_⟩
    have hw3:=T.1.size
    rw [N.out]at fl ⊢
    exact fl.out' (fun x hx=>by rw [uuidC,List.length_map];exact HX.out x hx) hw3
  | succ k=>
    have hjn:j<n:=by omega
    have tj:decide ((j:Int)<n)=true:=by simpa using hjn
    have e1:(0:Int)≤16*(j:Int):=by omega
    have e2:j≤n:=by omega
    have e3:¬c=16*j:=by omega
    have e4:(j:Int)<n:=by omega
    have tn:(16*(j:Int)).toNat=16*j:=by omega
    have e5:16≤16*n-16*j:=by omega
    have hjx:j<xs.length:=by rw [←N.out];exact hjn
    obtain⟨y,hy⟩:∃y,y=xs[j]'hjx:=⟨_,rfl⟩
    have J:=CK.out j hjx
    have J2:=HX.out _ (List.getElem_mem hjx)
    rw [←hy]at J J2
    have HY:=Lib.hid hy
    clear hy
    have e6:16*(j:Int)+16≤c:=by omega
    have e7:16*(j:Int)+16≤16*n:=by omega
    have tn2:(16*(j:Int)+16).toNat=16*j+16:=by omega
    have e9:16*(j:Int)≤16*(j:Int)+16:=by omega
    have wj:IntKind.i64.wrap (16*(j:Int)+16)=16*(j:Int)+16:=IntWalk.i64_in _ (by omega)
    obtain⟨cs,hcs,hsz,hr⟩:=id fl
    go_wp2_with fail
    have J3:=J.of_blk ((kr.drew).block d hdl trivial)
    have HR:=Lib.hid hr
    have hyl:(uuidC y).length=16:=by rw [uuidC,List.length_map];exact J2
    have HYL:=Lib.hid hyl
    have hfit:j*16+16≤cs.size:=by rw [hsz,←N.out];omega
    clear hr hyl
    obtain⟨w4,hcp,hg4,k4⟩:=copy16_run wr.drew w3.heap.size (j*16) 16 d (i+16*j) (c-16*j) y J2 J3 cs 309 hcs hfit
    go_region
    go_wp2
    go_roundg k
    case measure=>omega
    case rel=>
     refine⟨j+1,by omega,congrArg _ (by omega),congrArg _ (by omega),(kr.drew).then k4 (fun i hi _=>by omega),?_⟩
     refine FillS.step (w:=wr) fl hjx (fun cs' hcs'=>?_)
     rw [hcs]at hcs'
     obtain rfl:cs=cs':=by injection hcs' with h;injection h
     refine⟨_,hg4,?_,fun i hi=>?_,fun hsz q hq=>?_⟩
     ·simp [HYL.out];omega
     ·rw [List.getElem?_toArray]
      rcases hi with hi | hi
      ·rw [List.getElem?_append_left (by simp;omega),List.getElem?_append_left (by simp;omega),List.getElem?_take_of_lt hi,Array.getElem?_toList]
      ·rw [List.getElem?_append_right (by simp [HYL.out];omega)]
       simp only [List.length_append,List.length_take,Array.length_toList,HYL.out,List.getElem?_drop,Array.getElem?_toList]
       congr 1;omega
     ·rw [←HY.out,List.getElem?_toArray,List.getElem?_append_left (by simp [HYL.out];omega),List.getElem?_append_right (by simp;omega)]
      congr 1;simp;omega
inductive Lens(s:Nat):List (List UInt8)→List UInt8→Prop where
 | nil:Lens s [] []
 | cons {q x:List UInt8} {xs:List (List UInt8)} {b:List UInt8} (hq:q.length=s) (hx:Lib.beNat q=x.length) (h:Lens s xs b):Lens s (x::xs) (q++(x++b))
theorem Lens.len{s:Nat}{xs:List (List UInt8)}{b:List UInt8}(h:Lens s xs b)(hne:∀x∈xs,x≠[]):xs.length*(s+1)≤b.length:=by
 induction h with
 | nil=>simp
 | @cons q x xs b hq hx h ih=>
   have h1:=ih (fun y hy=>hne y (List.mem_cons_of_mem _ hy))
   have h2:=List.length_pos_iff.2 (hne x (List.mem_cons_self ..))
   simp only [List.length_cons,List.length_append,hq]
   rw [Nat.add_mul]
   omega
theorem Lens.inv{s:Nat}{x:List UInt8}{xs:List (List UInt8)}{b:List UInt8}(h:Lens s (x::xs) b):∃q b',b=q++(x++b')∧q.length=s∧Lib.beNat q=x.length∧Lens s xs b':=by
 cases h with
 | @cons q _ _ b' hq hx h=>exact⟨q,b',rfl,hq,hx,h⟩
theorem one_of{l:List UInt8}(h:l.length=1):∃a,l=[a]:=by
 match l,h with
 | [a],_=>exact⟨a,rfl⟩
theorem beNat1(a:UInt8):Lib.beNat [a]=a.toNat:=by simp [Lib.beNat,Lib.beFrom]
theorem conv_symbol(w:World)(v:Value)(l:List UInt8)(h:SlB w v l):(convert 27 158 v).run Tryz.prog w=.ok (.string ⟨l.toArray⟩) w:=by
 obtain⟨A,c,rfl,hl,hc,hA⟩:=h
 have fo:∀m:List UInt8,(m.map fun b=>(b.toNat:Int)).map (fun n=>UInt8.ofNat n.toNat)=m:=fun m=>by
  rw [List.map_map];conv=>rhs;rw [←List.map_id m]
  apply List.map_congr_left;intro b _;simp
 by_cases he:l=[]
 ·subst he
  cases A with
  | none=>exact run_convert_bytes_nil (P:=Tryz.prog) w 27 5 Tryz.underlying27 Tryz.underlying5 0 c 158 Tryz.underlying158
  | some a=>
    rw [List.length_nil,run_convert_bytes_string w 27 158 5 _ 0 c Tryz.underlying27 Tryz.underlying5 Tryz.underlying158,run_bytesToString w a 0 c [] (by simp [loadCells,loadCellsFrom])]
    rfl
 ·obtain⟨d,i,rfl,hd⟩:=hA he
  have:=run_convert_bytes_arg (P:=Tryz.prog) w 27 5 Tryz.underlying27 Tryz.underlying5 d i l.length c (l.map fun b=>(b.toNat:Int)) (by simp) (fun j hj=>by
   rw [hd.cell j hj];simp [List.getD,hj]) 158 Tryz.underlying158
  rw [this]
  simp only [strOfNums,fo]
theorem info9:(Tryz.prog.info? 9).map (fun i=>(i.zero,i.size,i.bytes))=some (some (.string .empty),1,16):=by kernel_rfl
theorem info158:(Tryz.prog.info? 158).map (fun i=>(i.zero,i.size,i.bytes))=some (some (.string .empty),1,16):=by kernel_rfl
theorem arrayString_8(g:Nat)(p:Addr)(hpg:p.block≠g)(xs:List (List UInt8))(bd:List UInt8)(hx:∀x∈xs,x≠[])(hbd:Lens 1 xs bd)(hne:0<xs.length)(hmax:xs.length≤65536)(r h:List UInt8)(Hh:Hd 224 240 xs.length (161::bd) h)
 (w:World) (hc:w.cell? p=some (.slice none 0 0)) (hf:w.frozen? p=false) (B:Buf w g (h++(161::bd++r))):
 Calls Tryz.prog 121 #[.pointer (some p),.pointer (some ⟨g,0,none⟩)] w fun e w'=>e=.returned .nilIface∧ArrOut g p r 9 1 (xs.map fun x=>.string ⟨x.toArray⟩) w w':=by
 have hbl:=hbd.len hx
 have hm:=make_one 52 9 _ _ Tryz.underlying52 info9 rfl (by omega) xs.length hmax
 obtain⟨n,hn⟩:∃n,n=xs.length:=⟨_,rfl⟩
 rw [←hn]at hm hne hmax
 have hlen:=B.len
 obtain⟨M,hM⟩:∃M,M=(161::bd++r).length:=⟨_,rfl⟩
 have hM1:n*2≤M∧M≤1099511627776:=by simp only [List.length_cons,List.length_append]at hM hlen;omega
 obtain⟨hM1,hM2⟩:=hM1
 have t0:decide ((M:Int)<n*2)=false:=by simp;omega
 have t1:decide ((0:Int)<n)=true:=by simp;omega
 have HM:=Lib.hid hM
 have N:=Lib.hid hn
 have BL:=Lib.hid hbl
 have BD:=Lib.hid hbd
 have HX:=Lib.hid hx
 have HP:=Lib.hid hpg
 clear hn hbl hbd hx hpg hM hlen
 go_enter Tryz.func121,Tryz.ntmps121
 go_wp2_with fail
 refine(arrayHead g _ _ r h Hh (by rw [List.length_cons];have:=BL.out;omega) (by rw [←N.out];omega) _ B).mono ?_
 rintro e w1 ⟨rfl,h1⟩
 rw [←N.out]
 go_wp2_with fail
 refine(buf_LenM g _ M HM.out _ h1.2).mono ?_
 rintro e w2 ⟨rfl,h2⟩
 have h12:=h1.trans h2
 have hc2:=h12.1.cell hc HP.out
 go_wp2_with fail
 obtain⟨wa,hwa⟩:∃wa,wa=w2.alloc (.cells (madeCells #[.string .empty] n) 9):=⟨_,rfl⟩
 have kA:New w2 wa:=by rw [hwa];exact(Keep.refl _ w2).alloc _
 have hBa:wa.heap[w2.heap.size]? =some (.cells (madeCells #[.string .empty] n) 9 (0,0)):=by rw [hwa];exact blk_new _ _
 rw [←hwa]
 clear hwa
 refine(readType_is g _ _ _ (h2.2.new kA)).mono ?_
 rintro e w3 ⟨rfl,h3⟩
 have hgl:=h12.2.lt
 have hB3:=h3.1.blk hBa (show w2.heap.size≠g by omega)
 have h13:=(h12.trans (Adv.look h12.2 kA)).trans h3
 have hlt:=cell_lt hc
 have hws:=h12.1.size
 have hc3:=h13.1.cell hc HP.out
 have fr3:w3.frozen? p=false:=(h13.1.free hlt HP.out).trans hf
 have HB3:=Lib.hid hB3
 have HC3:=Lib.hid hc3
 have FR3:=Lib.hid fr3
 clear hB3 hBa hc3 fr3
 go_wp2_with fail
 go_loopg [59] n (fun k s57 wr=>∃(j:Nat) (bj:List UInt8),j+k=n∧s57=.int .i64 (j:Int)∧Lens 1 (xs.drop j) bj∧Keep (fun k=>k≠g∧k≠w2.heap.size) w3 wr∧Buf wr g (bj++r)∧Fill wr w2.heap.size 9 xs (fun x=>.string ⟨x.toArray⟩) j)
 case atStart=>exact⟨0,bd,by omega,rfl,BD.out,Keep.refl _ _,h3.2,Fill.zero HB3.out (by rw [size_madeCells,N.out])⟩
 case round=>
  obtain⟨j,bj,hj,rfl,hLj,kr,hBr,fl⟩:=hrel
  have LJ:=Lib.hid hLj
  clear hLj
  cases gk with
  | zero=>
    obtain rfl:j=n:=by omega
    have hcr:=kr.cell HC3.out ⟨HP.out,by omega⟩
    have hfr:wr.frozen? p=false:=(kr.free (cell_lt HC3.out) ⟨HP.out,by omega⟩).trans FR3.out
    have hnil:bj=[]:=by
     have:=LJ.out
     rw [N.out,List.drop_length]at this
     cases this;rfl
    rw [hnil,List.nil_append]at hBr
    go_wp2
    go_ret
    refine⟨rfl,_,wr,rfl,⟨h13.1.then kr (fun i hi hig=>⟨hig,by omega⟩),hBr⟩,?_⟩
    rw [N.out]at fl ⊢
    exact fl.out hws
  | succ k=>
    have hjn:j<n:=by omega
    have tj:decide ((j:Int)<n)=true:=by simpa using hjn
    have e4:(j:Int)<n:=by omega
    have hjx:j<xs.length:=by rw [←N.out];exact hjn
    have hL:=LJ.out
    rw [List.drop_eq_getElem_cons hjx]at hL
    obtain⟨q,b',rfl,hq,hqx,hL'⟩:=hL.inv
    obtain⟨y,hy⟩:∃y,y=xs[j]'hjx:=⟨_,rfl⟩
    rw [←hy]at hqx hBr
    have HY:=Lib.hid hy
    have L2:=Lib.hid hL'
    clear hy hL hL' LJ
    simp only [List.append_assoc]at hBr
    obtain⟨c,rfl⟩:=one_of hq
    rw [beNat1]at hqx
    have hw:wrap64 (c.toNat:Int)=c.toNat:=by unfold wrap64;have:=c.toNat_lt;omega
    have QX:=Lib.hid hqx
    clear hqx hq
    go_wp2_with fail
    refine(buf_ReadByte g _ _ _ hBr).mono ?_
    rintro e w4 ⟨rfl,h4⟩
    go_wp2_with fail
    refine(buf_Next g y (b'++r) _ _ h4.2 (by rw [QX.out])).mono ?_
    rintro e w5 ⟨v,rfl,h5,hv⟩
    have hs:=conv_string _ _ _ hv
    have h45:=h4.trans h5
    have fl5:=fl.keep h45.1 (show w2.heap.size≠g by omega)
    have fz5:=fl5.free j
    obtain⟨u1,hu1⟩:=fl5.cell j hjx
    have st:=fl5.step hjx
    rw [←HY.out]at st
    go_wp2
    go_roundg k
    case measure=>omega
    case rel=>
     refine⟨j+1,b',by omega,congrArg _ (by omega),L2.out,(kr.then h45.1 (fun i hi hig=>hig.1)).setCell (.inr (by simp)) _,h45.2.keep (ok:=fun k=>k≠w2.heap.size) ((Keep.refl _ w5).setCell (.inr (by simp)) _) (fun i hi=>by omega),st⟩
theorem arrayString_32(g:Nat)(p:Addr)(hpg:p.block≠g)(xs:List (List UInt8))(bd:List UInt8)(hx:∀x∈xs,x≠[])(hbd:Lens 4 xs bd)(hne:0<xs.length)(hmax:xs.length≤65536)(r h:List UInt8)(Hh:Hd 224 240 xs.length (177::bd) h)
 (w:World) (hc:w.cell? p=some (.slice none 0 0)) (hf:w.frozen? p=false) (B:Buf w g (h++(177::bd++r))):
 Calls Tryz.prog 121 #[.pointer (some p),.pointer (some ⟨g,0,none⟩)] w fun e w'=>e=.returned .nilIface∧ArrOut g p r 9 1 (xs.map fun x=>.string ⟨x.toArray⟩) w w':=by
 have hbl:=hbd.len hx
 have hm:=make_one 52 9 _ _ Tryz.underlying52 info9 rfl (by omega) xs.length hmax
 obtain⟨n,hn⟩:∃n,n=xs.length:=⟨_,rfl⟩
 rw [←hn]at hm hne hmax
 have hlen:=B.len
 obtain⟨M,hM⟩:∃M,M=(177::bd++r).length:=⟨_,rfl⟩
 have hM1:n*2≤M∧M≤1099511627776:=by simp only [List.length_cons,List.length_append]at hM hlen;omega
 obtain⟨hM1,hM2⟩:=hM1
 have t0:decide ((M:Int)<n*2)=false:=by simp;omega
 have t1:decide ((0:Int)<n)=true:=by simp;omega
 have HM:=Lib.hid hM
 have N:=Lib.hid hn
 have BL:=Lib.hid hbl
 have BD:=Lib.hid hbd
 have HX:=Lib.hid hx
 have HP:=Lib.hid hpg
 clear hn hbl hbd hx hpg hM hlen
 go_enter Tryz.func121,Tryz.ntmps121
 go_wp2_with fail
 refine(arrayHead g _ _ r h Hh (by rw [List.length_cons];have:=BL.out;omega) (by rw [←N.out];omega) _ B).mono ?_
 rintro e w1 ⟨rfl,h1⟩
 rw [←N.out]
 go_wp2_with fail
 refine(buf_LenM g _ M HM.out _ h1.2).mono ?_
 rintro e w2 ⟨rfl,h2⟩
 have h12:=h1.trans h2
 have hc2:=h12.1.cell hc HP.out
 go_wp2_with fail
 obtain⟨wa,hwa⟩:∃wa,wa=w2.alloc (.cells (madeCells #[.string .empty] n) 9):=⟨_,rfl⟩
 have kA:New w2 wa:=by rw [hwa];exact(Keep.refl _ w2).alloc _
 have hBa:wa.heap[w2.heap.size]? =some (.cells (madeCells #[.string .empty] n) 9 (0,0)):=by rw [hwa];exact blk_new _ _
 rw [←hwa]
 clear hwa
 refine(readType_is g _ _ _ (h2.2.new kA)).mono ?_
 rintro e w3 ⟨rfl,h3⟩
 have hgl:=h12.2.lt
 have hB3:=h3.1.blk hBa (show w2.heap.size≠g by omega)
 have h13:=(h12.trans (Adv.look h12.2 kA)).trans h3
 have hlt:=cell_lt hc
 have hws:=h12.1.size
 have hc3:=h13.1.cell hc HP.out
 have fr3:w3.frozen? p=false:=(h13.1.free hlt HP.out).trans hf
 have HB3:=Lib.hid hB3
 have HC3:=Lib.hid hc3
 have FR3:=Lib.hid fr3
 clear hB3 hBa hc3 fr3
 go_wp2_with fail
 go_loopg [90] n (fun k s57 wr=>∃(j:Nat) (bj:List UInt8),j+k=n∧s57=.int .i64 (j:Int)∧Lens 4 (xs.drop j) bj∧Keep (fun k=>k≠g∧k≠w2.heap.size) w3 wr∧Buf wr g (bj++r)∧Fill wr w2.heap.size 9 xs (fun x=>.string ⟨x.toArray⟩) j)
 case atStart=>exact⟨0,bd,by omega,rfl,BD.out,Keep.refl _ _,h3.2,Fill.zero HB3.out (by rw [size_madeCells,N.out])⟩
 case round=>
  obtain⟨j,bj,hj,rfl,hLj,kr,hBr,fl⟩:=hrel
  have LJ:=Lib.hid hLj
  clear hLj
  cases gk with
  | zero=>
    obtain rfl:j=n:=by omega
    have hcr:=kr.cell HC3.out ⟨HP.out,by omega⟩
    have hfr:wr.frozen? p=false:=(kr.free (cell_lt HC3.out) ⟨HP.out,by omega⟩).trans FR3.out
    have hnil:bj=[]:=by
     have:=LJ.out
     rw [N.out,List.drop_length]at this
     cases this;rfl
    rw [hnil,List.nil_append]at hBr
    go_wp2
    go_ret
    refine⟨rfl,_,wr,rfl,⟨h13.1.then kr (fun i hi hig=>⟨hig,by omega⟩),hBr⟩,?_⟩
    rw [N.out]at fl ⊢
    exact fl.out hws
  | succ k=>
    have hjn:j<n:=by omega
    have tj:decide ((j:Int)<n)=true:=by simpa using hjn
    have e4:(j:Int)<n:=by omega
    have hjx:j<xs.length:=by rw [←N.out];exact hjn
    have hL:=LJ.out
    rw [List.drop_eq_getElem_cons hjx]at hL
    obtain⟨q,b',rfl,hq,hqx,hL'⟩:=hL.inv
    obtain⟨y,hy⟩:∃y,y=xs[j]'hjx:=⟨_,rfl⟩
    rw [←hy]at hqx hBr
    have HY:=Lib.hid hy
    have L2:=Lib.hid hL'
    clear hy hL hL' LJ
    simp only [List.append_assoc]at hBr
    have hw:wrap64 (Lib.beNat q:Int)=Lib.beNat q:=w64 (beNat_lt4 hq)
    have QX:=Lib.hid hqx
    have QL:=Lib.hid hq
    clear hqx hq
    go_wp2_with fail
    refine(buf_Next g q (y++(b'++r)) 4 _ hBr (by rw [QL.out];rfl)).mono ?_
    rintro e w4 ⟨v4,rfl,h4,hv4⟩
    obtain⟨A,c,rfl,hc1,hc2,hA⟩:=hv4
    obtain⟨d,i,rfl,hd⟩:=hA (ne_nil_of QL.out (by omega))
    go_wp2_with fail
    refine(be_Uint32' d i _ c q _ QL.out (by rw [QL.out];omega) hd).mono ?_
    rintro e w5 ⟨rfl,k5⟩
    have h4':=h4.trans (Adv.look h4.2 k5)
    go_wp2_with fail
    refine(buf_Next g y (b'++r) _ _ h4'.2 (by rw [QX.out])).mono ?_
    rintro e w6 ⟨v,rfl,h5,hv⟩
    have hs:=conv_string _ _ _ hv
    have h45:=h4'.trans h5
    have fl5:=fl.keep h45.1 (show w2.heap.size≠g by omega)
    have fz5:=fl5.free j
    obtain⟨u1,hu1⟩:=fl5.cell j hjx
    have st:=fl5.step hjx
    rw [←HY.out]at st
    go_wp2
    go_roundg k
    case measure=>omega
    case rel=>
     refine⟨j+1,b',by omega,congrArg _ (by omega),L2.out,(kr.then h45.1 (fun i hi hig=>hig.1)).setCell (.inr (by simp)) _,h45.2.keep (ok:=fun k=>k≠w2.heap.size) ((Keep.refl _ w6).setCell (.inr (by simp)) _) (fun i hi=>by omega),st⟩
theorem arraySymbol_8(g:Nat)(p:Addr)(hpg:p.block≠g)(xs:List (List UInt8))(bd:List UInt8)(hx:∀x∈xs,x≠[])(hbd:Lens 1 xs bd)(hne:0<xs.length)(hmax:xs.length≤65536)(r h:List UInt8)(Hh:Hd 224 240 xs.length (163::bd) h)
 (w:World) (hc:w.cell? p=some (.slice none 0 0)) (hf:w.frozen? p=false) (B:Buf w g (h++(163::bd++r))):
 Calls Tryz.prog 122 #[.pointer (some p),.pointer (some ⟨g,0,none⟩)] w fun e w'=>e=.returned .nilIface∧ArrOut g p r 158 1 (xs.map fun x=>.string ⟨x.toArray⟩) w w':=by
 have hbl:=hbd.len hx
 have hm:=make_one 109 158 _ _ Tryz.underlying109 info158 rfl (by omega) xs.length hmax
 obtain⟨n,hn⟩:∃n,n=xs.length:=⟨_,rfl⟩
 rw [←hn]at hm hne hmax
 have hlen:=B.len
 obtain⟨M,hM⟩:∃M,M=(163::bd++r).length:=⟨_,rfl⟩
 have hM1:n*2≤M∧M≤1099511627776:=by simp only [List.length_cons,List.length_append]at hM hlen;omega
 obtain⟨hM1,hM2⟩:=hM1
 have t0:decide ((M:Int)<n*2)=false:=by simp;omega
 have t1:decide ((0:Int)<n)=true:=by simp;omega
 have HM:=Lib.hid hM
 have N:=Lib.hid hn
 have BL:=Lib.hid hbl
 have BD:=Lib.hid hbd
 have HX:=Lib.hid hx
 have HP:=Lib.hid hpg
 clear hn hbl hbd hx hpg hM hlen
 go_enter Tryz.func122,Tryz.ntmps122
 go_wp2_with fail
 refine(arrayHead g _ _ r h Hh (by rw [List.length_cons];have:=BL.out;omega) (by rw [←N.out];omega) _ B).mono ?_
 rintro e w1 ⟨rfl,h1⟩
 rw [←N.out]
 go_wp2_with fail
 refine(buf_LenM g _ M HM.out _ h1.2).mono ?_
 rintro e w2 ⟨rfl,h2⟩
 have h12:=h1.trans h2
 have hc2:=h12.1.cell hc HP.out
 go_wp2_with fail
 obtain⟨wa,hwa⟩:∃wa,wa=w2.alloc (.cells (madeCells #[.string .empty] n) 158):=⟨_,rfl⟩
 have kA:New w2 wa:=by rw [hwa];exact(Keep.refl _ w2).alloc _
 have hBa:wa.heap[w2.heap.size]? =some (.cells (madeCells #[.string .empty] n) 158 (0,0)):=by rw [hwa];exact blk_new _ _
 rw [←hwa]
 clear hwa
 refine(readType_is g _ _ _ (h2.2.new kA)).mono ?_
 rintro e w3 ⟨rfl,h3⟩
 have hgl:=h12.2.lt
 have hB3:=h3.1.blk hBa (show w2.heap.size≠g by omega)
 have h13:=(h12.trans (Adv.look h12.2 kA)).trans h3
 have hlt:=cell_lt hc
 have hws:=h12.1.size
 have hc3:=h13.1.cell hc HP.out
 have fr3:w3.frozen? p=false:=(h13.1.free hlt HP.out).trans hf
 have HB3:=Lib.hid hB3
 have HC3:=Lib.hid hc3
 have FR3:=Lib.hid fr3
 clear hB3 hBa hc3 fr3
 go_wp2_with fail
 go_loopg [59] n (fun k s57 wr=>∃(j:Nat) (bj:List UInt8),j+k=n∧s57=.int .i64 (j:Int)∧Lens 1 (xs.drop j) bj∧Keep (fun k=>k≠g∧k≠w2.heap.size) w3 wr∧Buf wr g (bj++r)∧Fill wr w2.heap.size 158 xs (fun x=>.string ⟨x.toArray⟩) j)
 case atStart=>exact⟨0,bd,by omega,rfl,BD.out,Keep.refl _ _,h3.2,Fill.zero HB3.out (by rw [size_madeCells,N.out])⟩
 case round=>
  obtain⟨j,bj,hj,rfl,hLj,kr,hBr,fl⟩:=hrel
  have LJ:=Lib.hid hLj
  clear hLj
  cases gk with
  | zero=>
    obtain rfl:j=n:=by omega
    have hcr:=kr.cell HC3.out ⟨HP.out,by omega⟩
    have hfr:wr.frozen? p=false:=(kr.free (cell_lt HC3.out) ⟨HP.out,by omega⟩).trans FR3.out
    have hnil:bj=[]:=by
     have:=LJ.out
     rw [N.out,List.drop_length]at this
     cases this;rfl
    rw [hnil,List.nil_append]at hBr
    go_wp2
    go_ret
    refine⟨rfl,_,wr,rfl,⟨h13.1.then kr (fun i hi hig=>⟨hig,by omega⟩),hBr⟩,?_⟩
    rw [N.out]at fl ⊢
    exact fl.out hws
  | succ k=>
    have hjn:j<n:=by omega
    have tj:decide ((j:Int)<n)=true:=by simpa using hjn
    have e4:(j:Int)<n:=by omega
    have hjx:j<xs.length:=by rw [←N.out];exact hjn
    have hL:=LJ.out
    rw [List.drop_eq_getElem_cons hjx]at hL
    obtain⟨q,b',rfl,hq,hqx,hL'⟩:=hL.inv
    obtain⟨y,hy⟩:∃y,y=xs[j]'hjx:=⟨_,rfl⟩
    rw [←hy]at hqx hBr
    have HY:=Lib.hid hy
    have L2:=Lib.hid hL'
    clear hy hL hL' LJ
    simp only [List.append_assoc]at hBr
    obtain⟨c,rfl⟩:=one_of hq
    rw [beNat1]at hqx
    have hw:wrap64 (c.toNat:Int)=c.toNat:=by unfold wrap64;have:=c.toNat_lt;omega
    have QX:=Lib.hid hqx
    clear hqx hq
    go_wp2_with fail
    refine(buf_ReadByte g _ _ _ hBr).mono ?_
    rintro e w4 ⟨rfl,h4⟩
    go_wp2_with fail
    refine(buf_Next g y (b'++r) _ _ h4.2 (by rw [QX.out])).mono ?_
    rintro e w5 ⟨v,rfl,h5,hv⟩
    have hs:=conv_symbol _ _ _ hv
    have h45:=h4.trans h5
    have fl5:=fl.keep h45.1 (show w2.heap.size≠g by omega)
    have fz5:=fl5.free j
    obtain⟨u1,hu1⟩:=fl5.cell j hjx
    have st:=fl5.step hjx
    rw [←HY.out]at st
    go_wp2
    go_roundg k
    case measure=>omega
    case rel=>
     refine⟨j+1,b',by omega,congrArg _ (by omega),L2.out,(kr.then h45.1 (fun i hi hig=>hig.1)).setCell (.inr (by simp)) _,h45.2.keep (ok:=fun k=>k≠w2.heap.size) ((Keep.refl _ w5).setCell (.inr (by simp)) _) (fun i hi=>by omega),st⟩
theorem arraySymbol_32(g:Nat)(p:Addr)(hpg:p.block≠g)(xs:List (List UInt8))(bd:List UInt8)(hx:∀x∈xs,x≠[])(hbd:Lens 4 xs bd)(hne:0<xs.length)(hmax:xs.length≤65536)(r h:List UInt8)(Hh:Hd 224 240 xs.length (179::bd) h)
 (w:World) (hc:w.cell? p=some (.slice none 0 0)) (hf:w.frozen? p=false) (B:Buf w g (h++(179::bd++r))):
 Calls Tryz.prog 122 #[.pointer (some p),.pointer (some ⟨g,0,none⟩)] w fun e w'=>e=.returned .nilIface∧ArrOut g p r 158 1 (xs.map fun x=>.string ⟨x.toArray⟩) w w':=by
 have hbl:=hbd.len hx
 have hm:=make_one 109 158 _ _ Tryz.underlying109 info158 rfl (by omega) xs.length hmax
 obtain⟨n,hn⟩:∃n,n=xs.length:=⟨_,rfl⟩
 rw [←hn]at hm hne hmax
 have hlen:=B.len
 obtain⟨M,hM⟩:∃M,M=(179::bd++r).length:=⟨_,rfl⟩
 have hM1:n*2≤M∧M≤1099511627776:=by simp only [List.length_cons,List.length_append]at hM hlen;omega
 obtain⟨hM1,hM2⟩:=hM1
 have t0:decide ((M:Int)<n*2)=false:=by simp;omega
 have t1:decide ((0:Int)<n)=true:=by simp;omega
 have HM:=Lib.hid hM
 have N:=Lib.hid hn
 have BL:=Lib.hid hbl
 have BD:=Lib.hid hbd
 have HX:=Lib.hid hx
 have HP:=Lib.hid hpg
 clear hn hbl hbd hx hpg hM hlen
 go_enter Tryz.func122,Tryz.ntmps122
 go_wp2_with fail
 refine(arrayHead g _ _ r h Hh (by rw [List.length_cons];have:=BL.out;omega) (by rw [←N.out];omega) _ B).mono ?_
 rintro e w1 ⟨rfl,h1⟩
 rw [←N.out]
 go_wp2_with fail
 refine(buf_LenM g _ M HM.out _ h1.2).mono ?_
 rintro e w2 ⟨rfl,h2⟩
 have h12:=h1.trans h2
 have hc2:=h12.1.cell hc HP.out
 go_wp2_with fail
 obtain⟨wa,hwa⟩:∃wa,wa=w2.alloc (.cells (madeCells #[.string .empty] n) 158):=⟨_,rfl⟩
 have kA:New w2 wa:=by rw [hwa];exact(Keep.refl _ w2).alloc _
 have hBa:wa.heap[w2.heap.size]? =some (.cells (madeCells #[.string .empty] n) 158 (0,0)):=by rw [hwa];exact blk_new _ _
 rw [←hwa]
 clear hwa
 refine(readType_is g _ _ _ (h2.2.new kA)).mono ?_
 rintro e w3 ⟨rfl,h3⟩
 have hgl:=h12.2.lt
 have hB3:=h3.1.blk hBa (show w2.heap.size≠g by omega)
 have h13:=(h12.trans (Adv.look h12.2 kA)).trans h3
 have hlt:=cell_lt hc
 have hws:=h12.1.size
 have hc3:=h13.1.cell hc HP.out
 have fr3:w3.frozen? p=false:=(h13.1.free hlt HP.out).trans hf
 have HB3:=Lib.hid hB3
 have HC3:=Lib.hid hc3
 have FR3:=Lib.hid fr3
 clear hB3 hBa hc3 fr3
 go_wp2_with fail
 go_loopg [90] n (fun k s57 wr=>∃(j:Nat) (bj:List UInt8),j+k=n∧s57=.int .i64 (j:Int)∧Lens 4 (xs.drop j) bj∧Keep (fun k=>k≠g∧k≠w2.heap.size) w3 wr∧Buf wr g (bj++r)∧Fill wr w2.heap.size 158 xs (fun x=>.string ⟨x.toArray⟩) j)
 case atStart=>exact⟨0,bd,by omega,rfl,BD.out,Keep.refl _ _,h3.2,Fill.zero HB3.out (by rw [size_madeCells,N.out])⟩
 case round=>
  obtain⟨j,bj,hj,rfl,hLj,kr,hBr,fl⟩:=hrel
  have LJ:=Lib.hid hLj
  clear hLj
  cases gk with
  | zero=>
    obtain rfl:j=n:=by omega
    have hcr:=kr.cell HC3.out ⟨HP.out,by omega⟩
    have hfr:wr.frozen? p=false:=(kr.free (cell_lt HC3.out) ⟨HP.out,by omega⟩).trans FR3.out
    have hnil:bj=[]:=by
     have:=LJ.out
     rw [N.out,List.drop_length]at this
     cases this;rfl
    rw [hnil,List.nil_append]at hBr
    go_wp2
    go_ret
    refine⟨rfl,_,wr,rfl,⟨h13.1.then kr (fun i hi hig=>⟨hig,by omega⟩),hBr⟩,?_⟩
    rw [N.out]at fl ⊢
    exact fl.out hws
  | succ k=>
    have hjn:j<n:=by omega
    have tj:decide ((j:Int)<n)=true:=by simpa using hjn
    have e4:(j:Int)<n:=by omega
    have hjx:j<xs.length:=by rw [←N.out];exact hjn
    have hL:=LJ.out
    rw [List.drop_eq_getElem_cons hjx]at hL
    obtain⟨q,b',rfl,hq,hqx,hL'⟩:=hL.inv
    obtain⟨y,hy⟩:∃y,y=xs[j]'hjx:=⟨_,rfl⟩
    rw [←hy]at hqx hBr
    have HY:=Lib.hid hy
    have L2:=Lib.hid hL'
    clear hy hL hL' LJ
    simp only [List.append_assoc]at hBr
    have hw:wrap64 (Lib.beNat q:Int)=Lib.beNat q:=w64 (beNat_lt4 hq)
    have QX:=Lib.hid hqx
    have QL:=Lib.hid hq
    clear hqx hq
    go_wp2_with fail
    refine(buf_Next g q (y++(b'++r)) 4 _ hBr (by rw [QL.out];rfl)).mono ?_
    rintro e w4 ⟨v4,rfl,h4,hv4⟩
    obtain⟨A,c,rfl,hc1,hc2,hA⟩:=hv4
    obtain⟨d,i,rfl,hd⟩:=hA (ne_nil_of QL.out (by omega))
    go_wp2_with fail
    refine(be_Uint32' d i _ c q _ QL.out (by rw [QL.out];omega) hd).mono ?_
    rintro e w5 ⟨rfl,k5⟩
    have h4':=h4.trans (Adv.look h4.2 k5)
    go_wp2_with fail
    refine(buf_Next g y (b'++r) _ _ h4'.2 (by rw [QX.out])).mono ?_
    rintro e w6 ⟨v,rfl,h5,hv⟩
    have hs:=conv_symbol _ _ _ hv
    have h45:=h4'.trans h5
    have fl5:=fl.keep h45.1 (show w2.heap.size≠g by omega)
    have fz5:=fl5.free j
    obtain⟨u1,hu1⟩:=fl5.cell j hjx
    have st:=fl5.step hjx
    rw [←HY.out]at st
    go_wp2
    go_roundg k
    case measure=>omega
    case rel=>
     refine⟨j+1,b',by omega,congrArg _ (by omega),L2.out,(kr.then h45.1 (fun i hi hig=>hig.1)).setCell (.inr (by simp)) _,h45.2.keep (ok:=fun k=>k≠w2.heap.size) ((Keep.refl _ w6).setCell (.inr (by simp)) _) (fun i hi=>by omega),st⟩
theorem info27:(Tryz.prog.info? 27).map (fun i=>(i.zero,i.size,i.bytes))=some (some (.slice none 0 0),1,24):=by kernel_rfl
section
variable {α:Type}
def FillR(w:World)(base B:Nat)(et:TypeId)(R:World→Value→α→Prop)(xs:List α)(k:Nat):Prop:=
 ∃cs,w.heap[B]? =some (.cells cs et (0,0))∧cs.size=xs.length∧∀j (hj:j<xs.length),j<k→∃u,cs[j]? =some u∧Dep (fun b=>base≤b∧b≠B) w (fun w=>R w u xs[j])
variable {w w':World} {base B:Nat} {et:TypeId} {R:World→Value→α→Prop} {xs:List α} {k:Nat}
theorem FillR.zero{cs:Array Value}(h:w.heap[B]? =some (.cells cs et (0,0)))(hs:cs.size=xs.length):FillR w base B et R xs 0:=⟨cs,h,hs,fun _ _ h=>absurd h (by omega)⟩
theorem FillR.keep{ok:Nat→Prop}(h:FillR w base B et R xs k)(kp:Keep ok w w')(ho:ok B)(hb:∀b,base≤b→ok b):FillR w' base B et R xs k:=by
 obtain⟨cs,hbk,hs,hr⟩:=h
 refine⟨cs,kp.blk hbk ho,hs,fun j hj hjk=>?_⟩
 obtain⟨u,hu,hd⟩:=hr j hj hjk
 exact⟨u,hu,hd.keep kp (fun b _ hbb=>hb b hbb.1)⟩
theorem FillR.free(h:FillR w base B et R xs k)(i:Nat):w.frozen? ⟨B,i,none⟩=false:=by
 obtain⟨cs,hb,_⟩:=h
 exact blk_free hb i
theorem FillR.cell(h:FillR w base B et R xs k)(i:Nat)(hi:i<xs.length):∃u,w.cell? ⟨B,i,none⟩=some u:=by
 obtain⟨cs,hb,hs,_⟩:=h
 rw [blk_cell hb]
 exact⟨cs[i],Array.getElem?_eq_getElem (by omega)⟩
theorem FillR.step(h:FillR w base B et R xs k)(hk:k<xs.length)(u:Value)(hu:Dep (fun b=>base≤b∧b≠B) w (fun w=>R w u xs[k])):FillR (w.setCell ⟨B,k,none⟩ u) base B et R xs (k+1):=by
 obtain⟨cs,hb,hs,hr⟩:=h
 have kk:Keep (fun b=>base≤b∧b≠B) w (w.setCell ⟨B,k,none⟩ u):=(Keep.refl _ w).setCell (.inr (by simp)) _
 refine⟨_,blk_set hb k _,by simpa using hs,fun j hj hjk=>?_⟩
 by_cases e:j=k
 ·subst e
  exact⟨u,by rw [Array.getElem?_setIfInBounds_self_of_lt (by omega)],hu.keep kk (fun _ _ h=>h)⟩
 ·obtain⟨u',hu',hd⟩:=hr j hj (by omega)
  exact⟨u',by rw [Array.getElem?_setIfInBounds_ne (by omega)];exact hu',hd.keep kk (fun _ _ h=>h)⟩
def SlR(w:World)(et:TypeId)(R:World→Value→α→Prop)(v:Value)(xs:List α):Prop:=
 ∃d cs,v=.slice (some ⟨d,0,none⟩) xs.length xs.length∧w.heap[d]? =some (.cells cs et (0,0))∧cs.size=xs.length∧∀j (hj:j<xs.length),∃u,cs[j]? =some u∧R w u xs[j]
theorem FillR.out{b0:Nat}(h:FillR w base B et R xs xs.length)(h1:b0≤base)(h2:b0≤B):Dep (fun b=>b0≤b) w (fun w=>SlR w et R (.slice (some ⟨B,0,none⟩) xs.length xs.length) xs):=by
 obtain⟨cs,hb,hs,hr⟩:=h
 intro w' hw
 refine⟨B,cs,rfl,(Dep.blk hb (ok:=fun b=>b0≤b) h2) w' hw,hs,fun j hj=>?_⟩
 obtain⟨u,hu,hd⟩:=hr j hj hj
 exact⟨u,hu,hd w' (fun b hb hbb=>hw b hb (Nat.le_trans h1 hbb.1))⟩
def ArrOutR(g:Nat)(p:Addr)(r:List UInt8)(et:TypeId)(R:World→Value→α→Prop)(xs:List α)(w w':World):Prop:=
 ∃sl w1,w'=w1.setCell p sl∧Adv g r w w1∧Dep (fun k=>w.heap.size≤k) w1 (fun w=>SlR w et R sl xs)
end
theorem arrayBinary_8(g:Nat)(p:Addr)(hpg:p.block≠g)(xs:List (List UInt8))(bd:List UInt8)(hx:∀x∈xs,x≠[])(hbd:Lens 1 xs bd)(hne:0<xs.length)(hmax:xs.length≤65536)(r h:List UInt8)(Hh:Hd 224 240 xs.length (160::bd) h)
 (w:World) (hc:w.cell? p=some (.slice none 0 0)) (hf:w.frozen? p=false) (B:Buf w g (h++(160::bd++r))):
 Calls Tryz.prog 123 #[.pointer (some p),.pointer (some ⟨g,0,none⟩)] w fun e w'=>e=.returned .nilIface∧ArrOutR g p r 27 (fun w u x=>SlB w u x) xs w w':=by
 have hbl:=hbd.len hx
 have hm:=make_one 349 27 _ _ Tryz.underlying349 info27 rfl (by omega) xs.length hmax
 obtain⟨n,hn⟩:∃n,n=xs.length:=⟨_,rfl⟩
 rw [←hn]at hm hne hmax
 have hlen:=B.len
 obtain⟨M,hM⟩:∃M,M=(160::bd++r).length:=⟨_,rfl⟩
 have hM1:n*2≤M∧M≤1099511627776:=by simp only [List.length_cons,List.length_append]at hM hlen;omega
 obtain⟨hM1,hM2⟩:=hM1
 have t0:decide ((M:Int)<n*2)=false:=by simp;omega
 have t1:decide ((0:Int)<n)=true:=by simp;omega
 have HM:=Lib.hid hM
 have N:=Lib.hid hn
 have BL:=Lib.hid hbl
 have BD:=Lib.hid hbd
 have HX:=Lib.hid hx
 have HP:=Lib.hid hpg
 clear hn hbl hbd hx hpg hM hlen
 go_enter Tryz.func123,Tryz.ntmps123
 go_wp2_with fail
 refine(arrayHead g _ _ r h Hh (by rw [List.length_cons];have:=BL.out;omega) (by rw [←N.out];omega) _ B).mono ?_
 rintro e w1 ⟨rfl,h1⟩
 rw [←N.out]
 go_wp2_with fail
 refine(buf_LenM g _ M HM.out _ h1.2).mono ?_
 rintro e w2 ⟨rfl,h2⟩
 have h12:=h1.trans h2
 have hc2:=h12.1.cell hc HP.out
 go_wp2_with fail
 obtain⟨wa,hwa⟩:∃wa,wa=w2.alloc (.cells (madeCells #[.slice none 0 0] n) 27):=⟨_,rfl⟩
 have kA:New w2 wa:=by rw [hwa];exact(Keep.refl _ w2).alloc _
 have hBa:wa.heap[w2.heap.size]? =some (.cells (madeCells #[.slice none 0 0] n) 27 (0,0)):=by rw [hwa];exact blk_new _ _
 rw [←hwa]
 clear hwa
 refine(readType_is g _ _ _ (h2.2.new kA)).mono ?_
 rintro e w3 ⟨rfl,h3⟩
 have hgl:=h12.2.lt
 have hB3:=h3.1.blk hBa (show w2.heap.size≠g by omega)
 have h13:=(h12.trans (Adv.look h12.2 kA)).trans h3
 have hlt:=cell_lt hc
 have hws:=h12.1.size
 have hc3:=h13.1.cell hc HP.out
 have fr3:w3.frozen? p=false:=(h13.1.free hlt HP.out).trans hf
 have HB3:=Lib.hid hB3
 have HC3:=Lib.hid hc3
 have FR3:=Lib.hid fr3
 clear hB3 hBa hc3 fr3
 go_wp2_with fail
 go_loopg [59] n (fun k s57 wr=>∃(j:Nat) (bj:List UInt8),j+k=n∧s57=.int .i64 (j:Int)∧Lens 1 (xs.drop j) bj∧Keep (fun k=>k≠g∧k≠w2.heap.size) w3 wr∧Buf wr g (bj++r)∧FillR wr w.heap.size w2.heap.size 27 (fun w u x=>SlB w u x) xs j)
 case atStart=>exact⟨0,bd,by omega,rfl,BD.out,Keep.refl _ _,h3.2,FillR.zero HB3.out (by rw [size_madeCells,N.out])⟩
 case round=>
  obtain⟨j,bj,hj,rfl,hLj,kr,hBr,fl⟩:=hrel
  have LJ:=Lib.hid hLj
  clear hLj
  cases gk with
  | zero=>
    obtain rfl:j=n:=by omega
    have hcr:=kr.cell HC3.out ⟨HP.out,by omega⟩
    have hfr:wr.frozen? p=false:=(kr.free (cell_lt HC3.out) ⟨HP.out,by omega⟩).trans FR3.out
    have hnil:bj=[]:=by
     have:=LJ.out
     rw [N.out,List.drop_length]at this
     cases this;rfl
    rw [hnil,List.nil_append]at hBr
    go_wp2
    go_ret
    refine⟨rfl,_,wr,rfl,⟨h13.1.then kr (fun i hi hig=>⟨hig,by omega⟩),hBr⟩,?_⟩
    rw [N.out]at fl ⊢
    exact fl.out (Nat.le_refl _) hws
  | succ k=>
    have hjn:j<n:=by omega
    have tj:decide ((j:Int)<n)=true:=by simpa using hjn
    have e4:(j:Int)<n:=by omega
    have hjx:j<xs.length:=by rw [←N.out];exact hjn
    have hL:=LJ.out
    rw [List.drop_eq_getElem_cons hjx]at hL
    obtain⟨q,b',rfl,hq,hqx,hL'⟩:=hL.inv
    obtain⟨y,hy⟩:∃y,y=xs[j]'hjx:=⟨_,rfl⟩
    rw [←hy]at hqx hBr
    have HY:=Lib.hid hy
    have L2:=Lib.hid hL'
    clear hy hL hL' LJ
    simp only [List.append_assoc]at hBr
    obtain⟨c,rfl⟩:=one_of hq
    rw [beNat1]at hqx
    have hw:wrap64 (c.toNat:Int)=c.toNat:=by unfold wrap64;have:=c.toNat_lt;omega
    have QX:=Lib.hid hqx
    clear hqx hq
    go_wp2_with fail
    refine(buf_ReadByte g _ _ _ hBr).mono ?_
    rintro e w4 ⟨rfl,h4⟩
    go_wp2_with fail
    refine(buf_Next g y (b'++r) _ _ h4.2 (by rw [QX.out])).mono ?_
    rintro e w5 ⟨v,rfl,h5,hv⟩
    have h45:=h4.trans h5
    have hyl:y.length≤1099511627776:=by have:=hBr.len;simp only [List.length_append]at this;omega
    have hyne:y≠[]:=by rw [HY.out];exact HX.out _ (List.getElem_mem hjx)
    obtain⟨c5,more,ha,hca,hcb⟩:=append_fresh w5 v y hv hyne hyl
    obtain⟨o5,ho5⟩:∃o5:Obj,o5=.cells ((y.map fun x=>Value.int .u8 (x.toNat:Int)).toArray++more) 5:=⟨_,rfl⟩
    have hnb:(w5.alloc o5).heap[w5.heap.size]? =some o5:=blk_new w5 o5
    have hnew:Dep (fun b=>w.heap.size≤b∧b≠w2.heap.size) (w5.alloc o5) (fun w=>SlB w (.slice (some ⟨w5.heap.size,0,none⟩) y.length c5) y):=by
     have e1:=h13.1.size
     have e2:=kr.size
     have e3:=h45.1.size
     have e4:=h3.1.size
     have e5:=kA.size
     have e6:=lt_blk HB3.out
     exact dep_front (more:=more) c5 hca hcb ⟨by omega,by omega⟩ (by rw [hnb,ho5])
    have hgw:=B.lt
    have kn:New w5 (w5.alloc o5):=(Keep.refl _ w5).alloc _
    have fl5:=(fl.keep h45.1 (show w2.heap.size≠g by omega) (fun b hb=>by omega)).keep kn trivial (fun _ _=>trivial)
    have fz5:=fl5.free j
    obtain⟨u1,hu1⟩:=fl5.cell j hjx
    have st:=fl5.step hjx (.slice (some ⟨w5.heap.size,0,none⟩) y.length c5) (by rw [←HY.out];exact hnew)
    rw [←ho5]at ha
    have HO:=Lib.hid ho5
    clear ho5 hnb hnew
    go_wp2_with (at_builtin;refine wpList_append_eq rfl _ _ 27 rfl _ _ _ _ rfl rfl ha ?_)
    go_roundg k
    case measure=>omega
    case rel=>
     refine⟨j+1,b',by omega,congrArg _ (by omega),L2.out,((kr.then (h45.1.trans (kn.keep _)) (fun i hi hig=>hig.1)).setCell (p:=⟨w2.heap.size,j,none⟩) (.inr (by simp)) _).drew,(h45.2.new kn).keep (ok:=fun k=>k≠w2.heap.size) (((Keep.refl _ _).setCell (p:=⟨w2.heap.size,j,none⟩) (.inr (by simp)) _).drew) (fun i hi=>by omega),st.keep ((Keep.refl (fun _=>True) _).drew) trivial (fun _ _=>trivial)⟩
theorem arrayBinary_32(g:Nat)(p:Addr)(hpg:p.block≠g)(xs:List (List UInt8))(bd:List UInt8)(hx:∀x∈xs,x≠[])(hbd:Lens 4 xs bd)(hne:0<xs.length)(hmax:xs.length≤65536)(r h:List UInt8)(Hh:Hd 224 240 xs.length (176::bd) h)
 (w:World) (hc:w.cell? p=some (.slice none 0 0)) (hf:w.frozen? p=false) (B:Buf w g (h++(176::bd++r))):
 Calls Tryz.prog 123 #[.pointer (some p),.pointer (some ⟨g,0,none⟩)] w fun e w'=>e=.returned .nilIface∧ArrOutR g p r 27 (fun w u x=>SlB w u x) xs w w':=by
 have hbl:=hbd.len hx
 have hm:=make_one 349 27 _ _ Tryz.underlying349 info27 rfl (by omega) xs.length hmax
 obtain⟨n,hn⟩:∃n,n=xs.length:=⟨_,rfl⟩
 rw [←hn]at hm hne hmax
 have hlen:=B.len
 obtain⟨M,hM⟩:∃M,M=(176::bd++r).length:=⟨_,rfl⟩
 have hM1:n*2≤M∧M≤1099511627776:=by simp only [List.length_cons,List.length_append]at hM hlen;omega
 obtain⟨hM1,hM2⟩:=hM1
 have t0:decide ((M:Int)<n*2)=false:=by simp;omega
 have t1:decide ((0:Int)<n)=true:=by simp;omega
 have HM:=Lib.hid hM
 have N:=Lib.hid hn
 have BL:=Lib.hid hbl
 have BD:=Lib.hid hbd
 have HX:=Lib.hid hx
 have HP:=Lib.hid hpg
 clear hn hbl hbd hx hpg hM hlen
 go_enter Tryz.func123,Tryz.ntmps123
 go_wp2_with fail
 refine(arrayHead g _ _ r h Hh (by rw [List.length_cons];have:=BL.out;omega) (by rw [←N.out];omega) _ B).mono ?_
 rintro e w1 ⟨rfl,h1⟩
 rw [←N.out]
 go_wp2_with fail
 refine(buf_LenM g _ M HM.out _ h1.2).mono ?_
 rintro e w2 ⟨rfl,h2⟩
 have h12:=h1.trans h2
 have hc2:=h12.1.cell hc HP.out
 go_wp2_with fail
 obtain⟨wa,hwa⟩:∃wa,wa=w2.alloc (.cells (madeCells #[.slice none 0 0] n) 27):=⟨_,rfl⟩
 have kA:New w2 wa:=by rw [hwa];exact(Keep.refl _ w2).alloc _
 have hBa:wa.heap[w2.heap.size]? =some (.cells (madeCells #[.slice none 0 0] n) 27 (0,0)):=by rw [hwa];exact blk_new _ _
 rw [←hwa]
 clear hwa
 refine(readType_is g _ _ _ (h2.2.new kA)).mono ?_
 rintro e w3 ⟨rfl,h3⟩
 have hgl:=h12.2.lt
 have hB3:=h3.1.blk hBa (show w2.heap.size≠g by omega)
 have h13:=(h12.trans (Adv.look h12.2 kA)).trans h3
 have hlt:=cell_lt hc
 have hws:=h12.1.size
 have hc3:=h13.1.cell hc HP.out
 have fr3:w3.frozen? p=false:=(h13.1.free hlt HP.out).trans hf
 have HB3:=Lib.hid hB3
 have HC3:=Lib.hid hc3
 have FR3:=Lib.hid fr3
 clear hB3 hBa hc3 fr3
 go_wp2_with fail
 go_loopg [90] n (fun k s57 wr=>∃(j:Nat) (bj:List UInt8),j+k=n∧s57=.int .i64 (j:Int)∧Lens 4 (xs.drop j) bj∧Keep (fun k=>k≠g∧k≠w2.heap.size) w3 wr∧Buf wr g (bj++r)∧FillR wr w.heap.size w2.heap.size 27 (fun w u x=>SlB w u x) xs j)
 case atStart=>exact⟨0,bd,by omega,rfl,BD.out,Keep.refl _ _,h3.2,FillR.zero HB3.out (by rw [size_madeCells,N.out])⟩
 case round=>
  obtain⟨j,bj,hj,rfl,hLj,kr,hBr,fl⟩:=hrel
  have LJ:=Lib.hid hLj
  clear hLj
  cases gk with
  | zero=>
    obtain rfl:j=n:=by omega
    have hcr:=kr.cell HC3.out ⟨HP.out,by omega⟩
    have hfr:wr.frozen? p=false:=(kr.free (cell_lt HC3.out) ⟨HP.out,by omega⟩).trans FR3.out
    have hnil:bj=[]:=by
     have:=LJ.out
     rw [N.out,List.drop_length]at this
     cases this;rfl
    rw [hnil,List.nil_append]at hBr
    go_wp2
    go_ret
    refine⟨rfl,_,wr,rfl,⟨h13.1.then kr (fun i hi hig=>⟨hig,by omega⟩),hBr⟩,?_⟩
    rw [N.out]at fl ⊢
    exact fl.out (Nat.le_refl _) hws
  | succ k=>
    have hjn:j<n:=by omega
    have tj:decide ((j:Int)<n)=true:=by simpa using hjn
    have e4:(j:Int)<n:=by omega
    have hjx:j<xs.length:=by rw [←N.out];exact hjn
    have hL:=LJ.out
    rw [List.drop_eq_getElem_cons hjx]at hL
    obtain⟨q,b',rfl,hq,hqx,hL'⟩:=hL.inv
    obtain⟨y,hy⟩:∃y,y=xs[j]'hjx:=⟨_,rfl⟩
    rw [←hy]at hqx hBr
    have HY:=Lib.hid hy
    have L2:=Lib.hid hL'
    clear hy hL hL' LJ
    simp only [List.append_assoc]at hBr
    have hw:wrap64 (Lib.beNat q:Int)=Lib.beNat q:=w64 (beNat_lt4 hq)
    have QX:=Lib.hid hqx
    have QL:=Lib.hid hq
    clear hqx hq
    go_wp2_with fail
    refine(buf_Next g q (y++(b'++r)) 4 _ hBr (by rw [QL.out];rfl)).mono ?_
    rintro e w4 ⟨v4,rfl,h4,hv4⟩
    obtain⟨A,c,rfl,hc1,hc2,hA⟩:=hv4
    obtain⟨d,i,rfl,hd⟩:=hA (ne_nil_of QL.out (by omega))
    go_wp2_with fail
    refine(be_Uint32' d i _ c q _ QL.out (by rw [QL.out];omega) hd).mono ?_
    rintro e w5 ⟨rfl,k5⟩
    have h4':=h4.trans (Adv.look h4.2 k5)
    go_wp2_with fail
    refine(buf_Next g y (b'++r) _ _ h4'.2 (by rw [QX.out])).mono ?_
    rintro e w6 ⟨v,rfl,h5,hv⟩
    have h45:=h4'.trans h5
    have hyl:y.length≤1099511627776:=by have:=hBr.len;simp only [List.length_append]at this;omega
    have hyne:y≠[]:=by rw [HY.out];exact HX.out _ (List.getElem_mem hjx)
    obtain⟨c5,more,ha,hca,hcb⟩:=append_fresh w6 v y hv hyne hyl
    obtain⟨o5,ho5⟩:∃o5:Obj,o5=.cells ((y.map fun x=>Value.int .u8 (x.toNat:Int)).toArray++more) 5:=⟨_,rfl⟩
    have hnb:(w6.alloc o5).heap[w6.heap.size]? =some o5:=blk_new w6 o5
    have hnew:Dep (fun b=>w.heap.size≤b∧b≠w2.heap.size) (w6.alloc o5) (fun w=>SlB w (.slice (some ⟨w6.heap.size,0,none⟩) y.length c5) y):=by
     have e1:=h13.1.size
     have e2:=kr.size
     have e3:=h45.1.size
     have e4:=h3.1.size
     have e5:=kA.size
     have e6:=lt_blk HB3.out
     exact dep_front (more:=more) c5 hca hcb ⟨by omega,by omega⟩ (by rw [hnb,ho5])
    have hgw:=B.lt
    have kn:New w6 (w6.alloc o5):=(Keep.refl _ w6).alloc _
    have fl5:=(fl.keep h45.1 (show w2.heap.size≠g by omega) (fun b hb=>by omega)).keep kn trivial (fun _ _=>trivial)
    have fz5:=fl5.free j
    obtain⟨u1,hu1⟩:=fl5.cell j hjx
    have st:=fl5.step hjx (.slice (some ⟨w6.heap.size,0,none⟩) y.length c5) (by rw [←HY.out];exact hnew)
    rw [←ho5]at ha
    have HO:=Lib.hid ho5
    clear ho5 hnb hnew
    go_wp2_with (at_builtin;refine wpList_append_eq rfl _ _ 27 rfl _ _ _ _ rfl rfl ha ?_)
    go_roundg k
    case measure=>omega
    case rel=>
     refine⟨j+1,b',by omega,congrArg _ (by omega),L2.out,((kr.then (h45.1.trans (kn.keep _)) (fun i hi hig=>hig.1)).setCell (p:=⟨w2.heap.size,j,none⟩) (.inr (by simp)) _).drew,(h45.2.new kn).keep (ok:=fun k=>k≠w2.heap.size) (((Keep.refl _ _).setCell (p:=⟨w2.heap.size,j,none⟩) (.inr (by simp)) _).drew) (fun i hi=>by omega),st.keep ((Keep.refl (fun _=>True) _).drew) trivial (fun _ _=>trivial)⟩
def ArrC(f:FuncId)(g:Nat)(r all:List UInt8)(φ:Value→World→Prop):Prop:=
 ∀(w0:World) (p:Addr),p.block≠g→w0.cell? p=some (.slice none 0 0)→w0.frozen? p=false→Buf w0 g all→
  Calls Tryz.prog f #[.pointer (some p),.pointer (some ⟨g,0,none⟩)] w0 fun e w'=>e=.returned .nilIface∧∃sl w1,w'=w1.setCell p sl∧Adv g r w0 w1∧Dep (fun k=>w0.heap.size≤k) w1 (φ sl)
theorem got_arr{w w0 w1:World}{g:Nat}{r all:List UInt8}{o:Obj}{sl:Value}{φ:World→Prop}(h0:Adv g all w w0)(k1:Adv g r (w0.alloc o) w1)(hd:Dep (fun k=>(w0.alloc o).heap.size≤k) w1 φ):
 Got w g r φ (w1.setCell ⟨w0.heap.size,0,none⟩ sl):=by
 have e1:=h0.1.size
 have e2:=k1.1.size
 have e3:=h0.2.lt
 simp only [World.size_alloc]at e2 hd
 refine⟨⟨((h0.1.alloc o).trans k1.1).setCell (.inl e1) _,k1.2.keep (ok:=fun k=>k≠w0.heap.size) ((Keep.refl _ w1).setCell (.inr (by simp)) _) (fun i hi=>by omega)⟩,?_⟩
 exact(hd.keep (ok':=fun k=>k≠w0.heap.size) ((Keep.refl _ w1).setCell (.inr (by simp)) _) (fun k _ hk=>by omega)).mono (fun k _ hk=>by omega)
theorem cell_arr{w0 w1:World}{g T:Nat}{r all:List UInt8}{v sl:Value}(h0:Buf w0 g all)(k1:Adv g r (w0.alloc (.cells #[v] T)) w1):(w1.setCell ⟨w0.heap.size,0,none⟩ sl).cell? ⟨w0.heap.size,0,none⟩=some sl:=by
 have e3:=h0.lt
 have hb:=k1.1.blk (blk_new w0 (.cells #[v] T)) (show w0.heap.size≠g by omega)
 exact(blk_cell (blk_set hb 0 sl) 0).trans rfl
theorem anyArr(cd:UInt8)(f:FuncId)(T:TypeId)(hq:(cd,f,T)∈[(81,111,326),(80,232,315),(96,112,51),(97,113,329),(82,114,320),(112,114,320),(84,115,332),(113,115,332),(83,116,323),(128,116,323),(85,117,335),(129,117,335),(114,118,338),(130,119,341),(86,120,313),(161,121,52),(177,121,52),(163,122,109),(179,122,109),(160,123,349),(176,123,349),(131,124,343),(152,126,346)])(g n:Nat)(data r h:List UInt8)(φ:Value→World→Prop)(Hh:Hd 224 240 n (cd::data) h)(w:World)(B:Buf w g (h++(cd::data++r)))(C:ArrC f g r (h++(cd::data++r)) φ):
 Calls Tryz.prog 204 #[.pointer (some ⟨g,0,none⟩)] w fun e w'=>∃s,e=.returned (.tuple #[.iface T s,.nilIface])∧Got w g r (φ s) w':=by
 simp only [List.mem_cons,List.mem_nil_iff,or_false,Prod.mk.injEq]at hq
 have CC:=Lib.hid C
 clear C
 rcases Hh with⟨s,c,rfl,hs,hn⟩ | ⟨p,q,rfl,hp,hq',hs,hn⟩
 ·obtain⟨M,hM⟩:∃M,M=([224,s,c]++(cd::data++r)).length:=⟨_,rfl⟩
  have hM1:4≤M:=by simp only [List.length_cons,List.length_append]at hM;omega
  have HM:=Lib.hid hM
  have t1:decide ((M:Int)<1)=false:=by simp;omega
  have t2:decide ((M:Int)<4)=false:=by simp;omega
  have t3:(3:Int)<M:=by omega
  have t4:(0:Int)<M:=by omega
  clear hs hn hM
  go_enter Tryz.func204,Tryz.ntmps204
  go_wp2_with fail
  refine(buf_Bytes g _ _ B).mono ?_
  rintro e w0 ⟨v,rfl,h0,A,c',rfl,hc1,hc2,hA⟩
  obtain⟨d,i,rfl,hd⟩:=hA (by simp)
  have b0:=hd.cell 0 (by simp)
  have b3:w0.cell? ⟨d,i+3,none⟩=some (.int .u8 (cd.toNat:Int)):=hd.cell 3 (by simp)
  clear hd
  simp only [Nat.add_zero,List.cons_append,List.getElem_cons_zero]at b0
  rw [←HM.out]
  rcases hq with⟨rfl,rfl,rfl⟩ | ⟨rfl,rfl,rfl⟩ | ⟨rfl,rfl,rfl⟩ | ⟨rfl,rfl,rfl⟩ | ⟨rfl,rfl,rfl⟩ | ⟨rfl,rfl,rfl⟩ | ⟨rfl,rfl,rfl⟩ | ⟨rfl,rfl,rfl⟩ | ⟨rfl,rfl,rfl⟩ | ⟨rfl,rfl,rfl⟩ | ⟨rfl,rfl,rfl⟩ | ⟨rfl,rfl,rfl⟩ | ⟨rfl,rfl,rfl⟩ | ⟨rfl,rfl,rfl⟩ | ⟨rfl,rfl,rfl⟩ | ⟨rfl,rfl,rfl⟩ | ⟨rfl,rfl,rfl⟩ | ⟨rfl,rfl,rfl⟩ | ⟨rfl,rfl,rfl⟩ | ⟨rfl,rfl,rfl⟩ | ⟨rfl,rfl,rfl⟩ | ⟨rfl,rfl,rfl⟩ | ⟨rfl,rfl,rfl⟩
  all_goals as_aux_lemma=>
   simp only [UInt8.reduceToNat,Int.cast_ofNat_Int]at b3
   go_wp2_with fail
   refine(CC.out _ ⟨w0.heap.size,0,none⟩ (by have:=h0.2.lt;simp;omega) ((blk_cell (blk_new w0 _) 0).trans rfl) (blk_free (blk_new w0 _) 0) (h0.2.new ((Keep.refl _ w0).alloc _))).mono ?_
   rintro e w2 ⟨rfl,sl,w1,rfl,k1,hd⟩
   have hcl:=cell_arr (sl:=sl) h0.2 k1
   go_wp2
   go_ret2
   exact⟨_,rfl,got_arr h0 k1 hd⟩
 ·obtain⟨M,hM⟩:∃M,M=(240::(p++q)++(cd::data++r)).length:=⟨_,rfl⟩
  have hM1:10≤M:=by simp only [List.length_cons,List.length_append]at hM;omega
  have HM:=Lib.hid hM
  have t1:decide ((M:Int)<1)=false:=by simp;omega
  have t2:decide ((M:Int)<10)=false:=by simp;omega
  have t3:(9:Int)<M:=by omega
  have t4:(0:Int)<M:=by omega
  have hpq:(240::(p++q)).length=9:=by simp only [List.length_cons,List.length_append];omega
  have HPQ:=Lib.hid hpq
  clear hs hn hM hp hq' hpq
  go_enter Tryz.func204,Tryz.ntmps204
  go_wp2_with fail
  refine(buf_Bytes g _ _ B).mono ?_
  rintro e w0 ⟨v,rfl,h0,A,c',rfl,hc1,hc2,hA⟩
  obtain⟨d,i,rfl,hd⟩:=hA (by simp)
  have b0:=hd.cell 0 (by simp)
  have hd9:=hd.drop
  rw [HPQ.out]at hd9
  have b3:w0.cell? ⟨d,i+9,none⟩=some (.int .u8 (cd.toNat:Int)):=hd9.cell 0 (by simp)
  clear hd hd9
  simp only [Nat.add_zero,List.cons_append,List.getElem_cons_zero]at b0
  rw [←HM.out]
  rcases hq with⟨rfl,rfl,rfl⟩ | ⟨rfl,rfl,rfl⟩ | ⟨rfl,rfl,rfl⟩ | ⟨rfl,rfl,rfl⟩ | ⟨rfl,rfl,rfl⟩ | ⟨rfl,rfl,rfl⟩ | ⟨rfl,rfl,rfl⟩ | ⟨rfl,rfl,rfl⟩ | ⟨rfl,rfl,rfl⟩ | ⟨rfl,rfl,rfl⟩ | ⟨rfl,rfl,rfl⟩ | ⟨rfl,rfl,rfl⟩ | ⟨rfl,rfl,rfl⟩ | ⟨rfl,rfl,rfl⟩ | ⟨rfl,rfl,rfl⟩ | ⟨rfl,rfl,rfl⟩ | ⟨rfl,rfl,rfl⟩ | ⟨rfl,rfl,rfl⟩ | ⟨rfl,rfl,rfl⟩ | ⟨rfl,rfl,rfl⟩ | ⟨rfl,rfl,rfl⟩ | ⟨rfl,rfl,rfl⟩ | ⟨rfl,rfl,rfl⟩
  all_goals as_aux_lemma=>
   simp only [UInt8.reduceToNat,Int.cast_ofNat_Int]at b3
   go_wp2_with fail
   refine(CC.out _ ⟨w0.heap.size,0,none⟩ (by have:=h0.2.lt;simp;omega) ((blk_cell (blk_new w0 _) 0).trans rfl) (blk_free (blk_new w0 _) 0) (h0.2.new ((Keep.refl _ w0).alloc _))).mono ?_
   rintro e w2 ⟨rfl,sl,w1,rfl,k1,hd⟩
   have hcl:=cell_arr (sl:=sl) h0.2 k1
   go_wp2
   go_ret2
   exact⟨_,rfl,got_arr h0 k1 hd⟩
end Go.Proofs.YtfoegolfadhmjaaGreatDoor
