/- laws.FnReadBegin returns true, whatever comes in: the row, and the card that ties its tables. -/
import Derived.Test.YtfoegolfadhmjaaGreatDoorZ27
import Derived.Test.YtfoegolfadhmjaaGreatDoorZ38
import Derived.Test.YtfoegolfadhmjaaGreatDoorZ49
import Derived.Test.YtfoegolfadhmjaaGreatDoorZ51
import Derived.Test.YtfoegolfadhmjaaGreatDoorCards
set_option linter.all false
set_option maxRecDepth 100000
set_option maxHeartbeats 32000000
namespace Go.Proofs.YtfoegolfadhmjaaGreatDoor
open Go.RowKit Go.WideShapes Go.Sort
def begS:Beg:=⟨[],1,0,0,1,[],[],[]⟩
def begR(us:List V):Beg:=⟨[],1,0,0,1,[],[],us⟩
theorem begS_n(us:List V):BegN (begR us):=⟨fun n h=>absurd h (by simp [begR]),by show 1<4294967296;omega,by show 0<4294967296;omega,by show 0<4294967296;omega,by show 1<4294967296;omega⟩
theorem begS_ok:BegOk begS []:=by
 refine⟨begS_n [],⟨by decide,rfl,by simp,by simp⟩,⟨by simp,by simp,by simp,by simp⟩,fun f hf=>?_,by simp [begF,begS,mayF,symF,mpF,nul,wts,wt],by decide,by decide,fun f hf=>?_,.nil⟩
 ·simp only [begF,List.mem_cons,List.mem_nil_iff,or_false]at hf
  rcases hf with rfl | rfl | rfl | rfl | rfl | rfl | rfl | rfl
  ·exact .leaf (.null 0) .nil
  ·exact .leaf (.u32 _ 0 (by decide)) .nil
  ·exact .leaf (.u32 _ 0 (by decide)) .nil
  ·exact .leaf (.u32 _ 0 (by decide)) .nil
  ·exact .leaf (.u32 _ 0 (by decide)) .nil
  ·exact .leaf (.null 0) .nil
  ·exact .leaf (.null 0) .nil
  ·exact .leaf (.null 0) .nil
 ·simp only [begF,List.mem_cons,List.mem_nil_iff,or_false]at hf
  rcases hf with rfl | rfl | rfl | rfl | rfl | rfl | rfl | rfl<;>simp [begS,mayF,symF,mpF,nul,cnt,cnts]
theorem beginOf_one(us:List V)(W:World)(sr so sd sp:Value)(h0:U16s W [] sr)(h1:Strs W [] so)(h2:Strs W [] sd)(h3:LM W us sp):Calls Tryz.prog 20 #[.agg #[sr,.int .u32 1,.int .u32 0,.int .u32 0,.int .u32 1,so,sd,sp]] W fun e w'=>∃d,e=.returned (.agg #[.int .u64 17,.slice (some ⟨d,0,none⟩) 8 8])∧New W w'∧FM w' (begF (begR us)) (.slice (some ⟨d,0,none⟩) 8 8):=
 beginOf_is (begR us) (begS_n us) (by simp [begR]) (by simp [begR]) W sr so sd sp h0 h1 h2 h3
theorem begBack_one{ks:List V}{b r:List UInt8}{od:Int}(hk:PutK (begF begS) ks)(he:EncW [.mk 21 0 [] ks 0 [.mk 5 17 [] [] od []]] b)(w:World)(VC:Vld w)(v:Value)(hv:SlB w v (b++r))(hmax:(b++r).length≤1099511627776):
 Calls Tryz.prog 19 #[v] w fun e w'=>∃A1 n1 c1 A2 n2 c2 A3 n3 c3 A4 n4 c4 us qs rest,e=.returned (.tuple #[.agg #[.slice A1 n1 c1,.int .u32 1,.int .u32 0,.int .u32 0,.int .u32 1,.slice A2 n2 c2,.slice A3 n3 c3,.slice A4 n4 c4],rest,.bool true])∧New w w'∧(([]:List (V×V)).Perm qs∧Sims (flat2 qs) us)∧(U16s w' [] (.slice A1 n1 c1)∧Strs w' [] (.slice A2 n2 c2)∧Strs w' [] (.slice A3 n3 c3)∧LM w' us (.slice A4 n4 c4))∧SlB w' rest r:=
 begBack begS_ok hk he w VC v hv hmax
theorem law5_is(G:Beg)(hg:BegN G)(forms:Nat)(hfo:forms<18446744073709551616)(r:List UInt8)(w:World)(VC:Vld w)(sr so sd sp vb:Value)(hs0:U16s w G.rem sr)(hs1:Strs w G.off so)(hs2:Strs w G.des sd)(hs3:LM w G.props sp)(hb:SlC w vb r):
 Calls Tryz.prog 5 #[.agg #[sr,.int .u32 (G.no:Int),.int .u32 (G.iw:Int),.int .u32 (G.ow:Int),.int .u32 (G.hm:Int),so,sd,sp],.int .u64 (forms:Int),vb] w fun e w'=>e=.returned (.bool true)∧New w w':=by
 have hsh3:=hs3.shape
 obtain⟨R,rc,rfl,-⟩:=id hs0
 obtain⟨B,bc,rfl,-⟩:=id hs1
 obtain⟨C,cc,rfl,-⟩:=id hs2
 obtain⟨D,dc,rfl,-⟩:=hsh3
 obtain⟨Ab,cb,rfl,hb1,hb2,-⟩:=id hb
 obtain⟨rn,hrn⟩:∃x,x=G.rem.length:=⟨_,rfl⟩
 obtain⟨bn,hbn⟩:∃x,x=G.off.length:=⟨_,rfl⟩
 obtain⟨cn,hcn⟩:∃x,x=G.des.length:=⟨_,rfl⟩
 obtain⟨dn,hdn⟩:∃x,x=G.props.length:=⟨_,rfl⟩
 rw [←hrn]at hs0 ⊢
 rw [←hbn]at hs1 ⊢
 rw [←hcn]at hs2 ⊢
 rw [←hdn]at hs3 ⊢
 have hz:=zzFits9_is G.off G.des R D rn rc G.no G.iw G.ow G.hm dn dc (w.alloc (.cells #[.slice R rn rc,.int .u32 (G.no:Int),.int .u32 (G.iw:Int),.int .u32 (G.ow:Int),.int .u32 (G.hm:Int),.slice B bn bc,.slice C cn cc,.slice D dn dc] 54)) _ _ (hs1.keep ((Keep.refl (fun _=>True) w).alloc _)) (hs2.keep ((Keep.refl (fun _=>True) w).alloc _))
 have HS:=Lib.hid (And.intro hs0 (And.intro hs1 (And.intro hs2 hs3)))
 have HB:=Lib.hid hb
 have HV:=Lib.hid VC
 have HG:=Lib.hid hg
 have kA:=(Keep.refl (fun _=>True) w).alloc (.cells #[.slice R rn rc,.int .u32 (G.no:Int),.int .u32 (G.iw:Int),.int .u32 (G.ow:Int),.int .u32 (G.hm:Int),.slice B bn bc,.slice C cn cc,.slice D dn dc] 54)
 have hbx:=Lib.hid (blk_new w (.cells #[.slice R rn rc,.int .u32 (G.no:Int),.int .u32 (G.iw:Int),.int .u32 (G.ow:Int),.int .u32 (G.hm:Int),.slice B bn bc,.slice C cn cc,.slice D dn dc] 54))
 have HZ:=Lib.hid hz
 clear hs0 hs1 hs2 hs3 hrn hbn hcn hdn VC hb hz hg
 go_enter Tryz.func5,Tryz.ntmps5
 go_wp2_with fail
 refine HZ.out.mono ?_
 rintro e w1 ⟨bb,rfl,k1,hzf⟩
 have HZF:=Lib.hid hzf
 have k01:=kA.trans k1
 have HBX:=Lib.hid (k1.blk hbx.out trivial)
 clear hzf
 cases bb
 ·go_wp2
  go_ret
  exact⟨rfl,k01⟩
 have hol:=HZF.out rfl
 have HOL:=Lib.hid hol
 clear hol
 cases big:decide (2147483647<r.length)
 case true=>
  have big':decide ((2147483647:Int)<(r.length:Int))=true:=by simp at big ⊢;omega
  go_wp2
  go_ret
  exact⟨rfl,k01⟩
 have big':decide ((2147483647:Int)<(r.length:Int))=false:=by simp at big ⊢;omega
 have HF1:=Lib.hid (beginOf_one [] (w1.alloc (.cells #[.slice none 0 0,.int .u32 1,.int .u32 0,.int .u32 0,.int .u32 1,.slice none 0 0,.slice none 0 0,.slice none 0 0] 54)) (.slice none 0 0) (.slice none 0 0) (.slice none 0 0) (.slice none 0 0) SlF.nil SlF.nil SlF.nil LM.nil)
 go_wp2_with fail
 refine HF1.out.mono ?_
 rintro e w2 ⟨d,rfl,k2,hfm⟩
 have k02:=(k01.alloc (.cells #[.slice none 0 0,.int .u32 1,.int .u32 0,.int .u32 0,.int .u32 1,.slice none 0 0,.slice none 0 0,.slice none 0 0] 54)).trans k2
 have kf:=(Keep.refl (fun _=>True) w2).alloc (.cells #[.int .u64 0,.bool true] 38)
 have hp:=put_is 17 (by omega) (begF begS) (by show 8≤1000;omega) (by show 0<8;omega) (fun ks h=>(fields_able (by omega) begS_ok.able h (by show 8≤1000;omega) begS_ok.wide).1) w2.heap.size true _ _ (hfm.keep kf) ⟨0,blk_new w2 _⟩
 have HP:=Lib.hid hp
 have hsz2:=k02.size
 clear hp hfm
 go_wp2_with fail
 refine HP.out.mono ?_
 rintro e w3 ⟨sl,b,ks,rfl,k3,-,hrow,hpk,henc⟩
 have k03:New w w3:=(k02.alloc (.cells #[.int .u64 0,.bool true] 38)).then k3 (fun i hi _=>by show i≠w2.heap.size;omega)
 have hlen:=henc.short
 have hwt:=(fields_able (c:=17) (od:=0) (by omega) begS_ok.able hpk (by show 8≤1000;omega) begS_ok.wide).2
 have hsl:=hrow.out.here
 obtain⟨Asl,csl,hsh,-⟩:=hsl
 have hsl:=hrow.out.here
 have hrd:=begBack_one hpk henc w3 (HV.out.new k03) sl (r:=[]) (by rw [List.append_nil];exact hsl) (by simp only [wts,Nat.add_zero]at hlen;simp only [List.append_nil];omega)
 subst hsh
 have HRD:=Lib.hid hrd
 clear hrd hsl hrow hpk henc hlen hwt
 go_wp2_with fail
 refine HRD.out.mono ?_
 rintro e w4 ⟨A1,n1,c1,A2,n2,c2,A3,n3,c3,A4,n4,c4,us,qs,rest,rfl,k4,hfs,hus,-⟩
 have k04:=k03.trans k4
 have hs2:=k2.size
 have kS:=(k2.trans kf).then k3 (ok:=fun _=>True) (fun i hi _=>by show i≠w2.heap.size;omega)
 have hsam:=(k4.blk (kS.blk (blk_new w1 (.cells #[.slice none 0 0,.int .u32 1,.int .u32 0,.int .u32 0,.int .u32 1,.slice none 0 0,.slice none 0 0,.slice none 0 0] 54)) trivial) trivial)
 have kO:=(Keep.refl (fun _=>True) w4).alloc (.cells #[.slice A1 n1 c1,.int .u32 1,.int .u32 0,.int .u32 0,.int .u32 1,.slice A2 n2 c2,.slice A3 n3 c3,.slice A4 n4 c4] 54)
 have hone:=blk_new w4 (.cells #[.slice A1 n1 c1,.int .u32 1,.int .u32 0,.int .u32 0,.int .u32 1,.slice A2 n2 c2,.slice A3 n3 c3,.slice A4 n4 c4] 54)
 have HSAM:=Lib.hid (kO.blk hsam trivial)
 have HONE:=Lib.hid hone
 have HUS:=Lib.hid (And.intro (hus.1.keep kO) (And.intro (hus.2.1.keep kO) (And.intro (hus.2.2.1.keep kO) (hus.2.2.2.keep kO))))
 have HSC:=Lib.hid (beg_same begS_ok hfs.1 hfs.2)
 have k05:=k04.trans kO
 have HBX5:=Lib.hid ((k4.trans kO).blk (kS.blk (blk_alloc HBX.out _) trivial) trivial)
 clear hsam hone hus hfs
 have mm:=(Keep.refl (fun _=>True) (w4.alloc (.cells #[.slice A1 n1 c1,.int .u32 1,.int .u32 0,.int .u32 0,.int .u32 1,.slice A2 n2 c2,.slice A3 n3 c3,.slice A4 n4 c4] 54))).drew
 have b7:((w4.alloc (.cells #[.slice A1 n1 c1,.int .u32 1,.int .u32 0,.int .u32 0,.int .u32 1,.slice A2 n2 c2,.slice A3 n3 c3,.slice A4 n4 c4] 54)).drew).heap[w1.heap.size]? =some (.cells #[.slice none 0 0,.int .u32 1,.int .u32 0,.int .u32 0,.int .u32 1,.slice none 0 0,.slice none 0 0,.slice none 0 0] 54 (0,0)):=HSAM.out
 have b8:((w4.alloc (.cells #[.slice A1 n1 c1,.int .u32 1,.int .u32 0,.int .u32 0,.int .u32 1,.slice A2 n2 c2,.slice A3 n3 c3,.slice A4 n4 c4] 54)).drew).heap[w4.heap.size]? =some (.cells #[.slice A1 n1 c1,.int .u32 1,.int .u32 0,.int .u32 0,.int .u32 1,.slice A2 n2 c2,.slice A3 n3 c3,.slice A4 n4 c4] 54 (0,0)):=HONE.out
 have ls0:(w4.alloc (.cells #[.slice A1 n1 c1,.int .u32 1,.int .u32 0,.int .u32 0,.int .u32 1,.slice A2 n2 c2,.slice A3 n3 c3,.slice A4 n4 c4] 54)).drew.cell? ⟨w1.heap.size,0,none⟩=some (.slice none 0 0):=(blk_cell b7 0).trans rfl;have ls1:(w4.alloc (.cells #[.slice A1 n1 c1,.int .u32 1,.int .u32 0,.int .u32 0,.int .u32 1,.slice A2 n2 c2,.slice A3 n3 c3,.slice A4 n4 c4] 54)).drew.cell? ⟨w1.heap.size,1,none⟩=some (.int .u32 1):=(blk_cell b7 1).trans rfl;have ls2:(w4.alloc (.cells #[.slice A1 n1 c1,.int .u32 1,.int .u32 0,.int .u32 0,.int .u32 1,.slice A2 n2 c2,.slice A3 n3 c3,.slice A4 n4 c4] 54)).drew.cell? ⟨w1.heap.size,2,none⟩=some (.int .u32 0):=(blk_cell b7 2).trans rfl;have ls3:(w4.alloc (.cells #[.slice A1 n1 c1,.int .u32 1,.int .u32 0,.int .u32 0,.int .u32 1,.slice A2 n2 c2,.slice A3 n3 c3,.slice A4 n4 c4] 54)).drew.cell? ⟨w1.heap.size,3,none⟩=some (.int .u32 0):=(blk_cell b7 3).trans rfl;have ls4:(w4.alloc (.cells #[.slice A1 n1 c1,.int .u32 1,.int .u32 0,.int .u32 0,.int .u32 1,.slice A2 n2 c2,.slice A3 n3 c3,.slice A4 n4 c4] 54)).drew.cell? ⟨w1.heap.size,4,none⟩=some (.int .u32 1):=(blk_cell b7 4).trans rfl;have ls5:(w4.alloc (.cells #[.slice A1 n1 c1,.int .u32 1,.int .u32 0,.int .u32 0,.int .u32 1,.slice A2 n2 c2,.slice A3 n3 c3,.slice A4 n4 c4] 54)).drew.cell? ⟨w1.heap.size,5,none⟩=some (.slice none 0 0):=(blk_cell b7 5).trans rfl;have ls6:(w4.alloc (.cells #[.slice A1 n1 c1,.int .u32 1,.int .u32 0,.int .u32 0,.int .u32 1,.slice A2 n2 c2,.slice A3 n3 c3,.slice A4 n4 c4] 54)).drew.cell? ⟨w1.heap.size,6,none⟩=some (.slice none 0 0):=(blk_cell b7 6).trans rfl;have ls7:(w4.alloc (.cells #[.slice A1 n1 c1,.int .u32 1,.int .u32 0,.int .u32 0,.int .u32 1,.slice A2 n2 c2,.slice A3 n3 c3,.slice A4 n4 c4] 54)).drew.cell? ⟨w1.heap.size,7,none⟩=some (.slice none 0 0):=(blk_cell b7 7).trans rfl
 have lo0:(w4.alloc (.cells #[.slice A1 n1 c1,.int .u32 1,.int .u32 0,.int .u32 0,.int .u32 1,.slice A2 n2 c2,.slice A3 n3 c3,.slice A4 n4 c4] 54)).drew.cell? ⟨w4.heap.size,0,none⟩=some (.slice A1 n1 c1):=(blk_cell b8 0).trans rfl;have lo1:(w4.alloc (.cells #[.slice A1 n1 c1,.int .u32 1,.int .u32 0,.int .u32 0,.int .u32 1,.slice A2 n2 c2,.slice A3 n3 c3,.slice A4 n4 c4] 54)).drew.cell? ⟨w4.heap.size,1,none⟩=some (.int .u32 1):=(blk_cell b8 1).trans rfl;have lo2:(w4.alloc (.cells #[.slice A1 n1 c1,.int .u32 1,.int .u32 0,.int .u32 0,.int .u32 1,.slice A2 n2 c2,.slice A3 n3 c3,.slice A4 n4 c4] 54)).drew.cell? ⟨w4.heap.size,2,none⟩=some (.int .u32 0):=(blk_cell b8 2).trans rfl;have lo3:(w4.alloc (.cells #[.slice A1 n1 c1,.int .u32 1,.int .u32 0,.int .u32 0,.int .u32 1,.slice A2 n2 c2,.slice A3 n3 c3,.slice A4 n4 c4] 54)).drew.cell? ⟨w4.heap.size,3,none⟩=some (.int .u32 0):=(blk_cell b8 3).trans rfl;have lo4:(w4.alloc (.cells #[.slice A1 n1 c1,.int .u32 1,.int .u32 0,.int .u32 0,.int .u32 1,.slice A2 n2 c2,.slice A3 n3 c3,.slice A4 n4 c4] 54)).drew.cell? ⟨w4.heap.size,4,none⟩=some (.int .u32 1):=(blk_cell b8 4).trans rfl;have lo5:(w4.alloc (.cells #[.slice A1 n1 c1,.int .u32 1,.int .u32 0,.int .u32 0,.int .u32 1,.slice A2 n2 c2,.slice A3 n3 c3,.slice A4 n4 c4] 54)).drew.cell? ⟨w4.heap.size,5,none⟩=some (.slice A2 n2 c2):=(blk_cell b8 5).trans rfl;have lo6:(w4.alloc (.cells #[.slice A1 n1 c1,.int .u32 1,.int .u32 0,.int .u32 0,.int .u32 1,.slice A2 n2 c2,.slice A3 n3 c3,.slice A4 n4 c4] 54)).drew.cell? ⟨w4.heap.size,6,none⟩=some (.slice A3 n3 c3):=(blk_cell b8 6).trans rfl;have lo7:(w4.alloc (.cells #[.slice A1 n1 c1,.int .u32 1,.int .u32 0,.int .u32 0,.int .u32 1,.slice A2 n2 c2,.slice A3 n3 c3,.slice A4 n4 c4] 54)).drew.cell? ⟨w4.heap.size,7,none⟩=some (.slice A4 n4 c4):=(blk_cell b8 7).trans rfl
 have HFA:=Lib.hid (fun W=>beginOf_one [] W (.slice none 0 0) (.slice none 0 0) (.slice none 0 0) (.slice none 0 0) SlF.nil SlF.nil SlF.nil LM.nil)
 have HFB:=Lib.hid (fun W (k:New (w4.alloc (.cells #[.slice A1 n1 c1,.int .u32 1,.int .u32 0,.int .u32 0,.int .u32 1,.slice A2 n2 c2,.slice A3 n3 c3,.slice A4 n4 c4] 54)) W)=>beginOf_one us W (.slice A1 n1 c1) (.slice A2 n2 c2) (.slice A3 n3 c3) (.slice A4 n4 c4) (HUS.out.1.keep k) (HUS.out.2.1.keep k) (HUS.out.2.2.1.keep k) (HUS.out.2.2.2.keep k))
 have HSA:=Lib.hid (fun W sA sB h1 h2=>same_is 17 (by omega) (begF begS) (begF (begR us)) (by show 8≤1000;omega) (by show 8≤8;omega) HSC.out W sA sB h1 h2)
 clear b7 b8
 go_wp2_with fail
 go_upto_region 5 with fail
 go_cut [11] (fun s11 wc=>s11=.bool true∧New (w4.alloc (.cells #[.slice A1 n1 c1,.int .u32 1,.int .u32 0,.int .u32 0,.int .u32 1,.slice A2 n2 c2,.slice A3 n3 c3,.slice A4 n4 c4] 54)) wc)
 case first=>
  go_region_law
   (first
    | (go_simp;go_at_call 20;((with_reducible refine(HFA.out _).mono ?_));rintro e wa ⟨da,rfl,ka,hfa⟩;have mm:=Keep.trans (show New (w4.alloc (.cells #[.slice A1 n1 c1,.int .u32 1,.int .u32 0,.int .u32 0,.int .u32 1,.slice A2 n2 c2,.slice A3 n3 c3,.slice A4 n4 c4] 54)) _ by assumption) ka;(try have hfb:=FM.keep hfb ka);(try (have lo0:=ka.cell lo0 trivial;have lo1:=ka.cell lo1 trivial;have lo2:=ka.cell lo2 trivial;have lo3:=ka.cell lo3 trivial;have lo4:=ka.cell lo4 trivial;have lo5:=ka.cell lo5 trivial;have lo6:=ka.cell lo6 trivial;have lo7:=ka.cell lo7 trivial)))
    | (go_simp;go_at_call 20;((with_reducible refine(HFB.out _ (by assumption)).mono ?_));rintro e wb ⟨db,rfl,kb,hfb⟩;have mm:=Keep.trans (show New (w4.alloc (.cells #[.slice A1 n1 c1,.int .u32 1,.int .u32 0,.int .u32 0,.int .u32 1,.slice A2 n2 c2,.slice A3 n3 c3,.slice A4 n4 c4] 54)) _ by assumption) kb;(try have hfa:=FM.keep hfa kb);(try (have ls0:=kb.cell ls0 trivial;have ls1:=kb.cell ls1 trivial;have ls2:=kb.cell ls2 trivial;have ls3:=kb.cell ls3 trivial;have ls4:=kb.cell ls4 trivial;have ls5:=kb.cell ls5 trivial;have ls6:=kb.cell ls6 trivial;have ls7:=kb.cell ls7 trivial)))
    | (go_simp;go_at_call 10;refine(HSA.out _ _ _ hfa hfb).mono ?_;rintro e wz ⟨rfl,kz⟩;have mm:=Keep.trans (show New (w4.alloc (.cells #[.slice A1 n1 c1,.int .u32 1,.int .u32 0,.int .u32 0,.int .u32 1,.slice A2 n2 c2,.slice A3 n3 c3,.slice A4 n4 c4] 54)) _ by assumption) kz))
  all_goals
   go_wp2
   go_meet
   exact⟨rfl,mm⟩
 case rest=>
  obtain⟨rfl,kc⟩:=hcut
  have k06:=k05.trans kc
  have HB6:=Lib.hid (kc.blk HBX5.out trivial)
  have z0:wc.cell? ⟨w.heap.size,0,none⟩=some (.slice R rn rc):=(blk_cell HB6.out 0).trans rfl;have z1:wc.cell? ⟨w.heap.size,1,none⟩=some (.int .u32 (G.no:Int)):=(blk_cell HB6.out 1).trans rfl;have z2:wc.cell? ⟨w.heap.size,2,none⟩=some (.int .u32 (G.iw:Int)):=(blk_cell HB6.out 2).trans rfl;have z3:wc.cell? ⟨w.heap.size,3,none⟩=some (.int .u32 (G.ow:Int)):=(blk_cell HB6.out 3).trans rfl;have z4:wc.cell? ⟨w.heap.size,4,none⟩=some (.int .u32 (G.hm:Int)):=(blk_cell HB6.out 4).trans rfl;have z5:wc.cell? ⟨w.heap.size,5,none⟩=some (.slice B bn bc):=(blk_cell HB6.out 5).trans rfl;have z6:wc.cell? ⟨w.heap.size,6,none⟩=some (.slice C cn cc):=(blk_cell HB6.out 6).trans rfl;have z7:wc.cell? ⟨w.heap.size,7,none⟩=some (.slice D dn dc):=(blk_cell HB6.out 7).trans rfl
  have HAF:=Lib.hid (askedBegin_is G.rem G.no G.iw G.ow G.hm G.off G.des G.props wc (HV.out.new k06) _ _ _ _ (HS.out.1.keep k06) (HS.out.2.1.keep k06) (HS.out.2.2.1.keep k06) (HS.out.2.2.2.keep k06))
  go_wp2_with fail
  refine HAF.out.mono ?_
  rintro e w6 ⟨b6,rfl,k6,hb6⟩
  have HB6':=Lib.hid hb6
  have k07:=k06.trans k6
  have HBX6:=Lib.hid (k6.blk HB6.out trivial)
  have z0:w6.cell? ⟨w.heap.size,0,none⟩=some (.slice R rn rc):=(blk_cell HBX6.out 0).trans rfl;have z1:w6.cell? ⟨w.heap.size,1,none⟩=some (.int .u32 (G.no:Int)):=(blk_cell HBX6.out 1).trans rfl;have z2:w6.cell? ⟨w.heap.size,2,none⟩=some (.int .u32 (G.iw:Int)):=(blk_cell HBX6.out 2).trans rfl;have z3:w6.cell? ⟨w.heap.size,3,none⟩=some (.int .u32 (G.ow:Int)):=(blk_cell HBX6.out 3).trans rfl;have z4:w6.cell? ⟨w.heap.size,4,none⟩=some (.int .u32 (G.hm:Int)):=(blk_cell HBX6.out 4).trans rfl;have z5:w6.cell? ⟨w.heap.size,5,none⟩=some (.slice B bn bc):=(blk_cell HBX6.out 5).trans rfl;have z6:w6.cell? ⟨w.heap.size,6,none⟩=some (.slice C cn cc):=(blk_cell HBX6.out 6).trans rfl;have z7:w6.cell? ⟨w.heap.size,7,none⟩=some (.slice D dn dc):=(blk_cell HBX6.out 7).trans rfl
  clear hb6
  cases b6
  ·go_wp2
   go_ret
   exact⟨rfl,k07⟩
  have HMA:=Lib.hid (HB6'.out (by first | rfl | trivial))
  have HF7:=Lib.hid (beginOf_is G HG.out HOL.out.1 HOL.out.2 w6 _ _ _ _ (HS.out.1.keep k07) (HS.out.2.1.keep k07) (HS.out.2.2.1.keep k07) (HS.out.2.2.2.keep k07))
  go_wp2_with fail
  refine HF7.out.mono ?_
  rintro e w7 ⟨d7,rfl,k7,hfm7⟩
  have k08:=k07.trans k7
  have HCF:=Lib.hid (compFits_is 17 (by omega) (begF G) (by show 8≤1000;omega) w7 (HV.out.new k08) _ hfm7)
  clear hfm7
  go_wp2_with fail
  refine HCF.out.mono ?_
  rintro e w8 ⟨b8,rfl,k8,hb8⟩
  have HB8:=Lib.hid hb8
  have k09:=k08.trans k8
  clear hb8
  cases b8
  ·go_wp2
   go_ret
   exact⟨rfl,k09⟩
  have HFIT:=Lib.hid (HB8.out (by first | rfl | trivial))
  cases h100:decide (100<r.length)
  case true=>
   have h100':decide ((100:Int)<(r.length:Int))=true:=by simp at h100 ⊢;omega
   go_wp2
   go_ret
   exact⟨rfl,k09⟩
  have h100':decide ((100:Int)<(r.length:Int))=false:=by simp at h100 ⊢;omega
  obtain⟨ps,hok⟩:=begOk HG.out HMA.out.1 HMA.out.2.2.1 HMA.out.2.2.2.1 HMA.out.2.2.2.2 HFIT.out.1 HFIT.out.2
  have HOK:=Lib.hid hok
  clear hok
  have HBX8:=Lib.hid ((k7.trans k8).blk HBX6.out trivial)
  have z0:w8.cell? ⟨w.heap.size,0,none⟩=some (.slice R rn rc):=(blk_cell HBX8.out 0).trans rfl;have z1:w8.cell? ⟨w.heap.size,1,none⟩=some (.int .u32 (G.no:Int)):=(blk_cell HBX8.out 1).trans rfl;have z2:w8.cell? ⟨w.heap.size,2,none⟩=some (.int .u32 (G.iw:Int)):=(blk_cell HBX8.out 2).trans rfl;have z3:w8.cell? ⟨w.heap.size,3,none⟩=some (.int .u32 (G.ow:Int)):=(blk_cell HBX8.out 3).trans rfl;have z4:w8.cell? ⟨w.heap.size,4,none⟩=some (.int .u32 (G.hm:Int)):=(blk_cell HBX8.out 4).trans rfl;have z5:w8.cell? ⟨w.heap.size,5,none⟩=some (.slice B bn bc):=(blk_cell HBX8.out 5).trans rfl;have z6:w8.cell? ⟨w.heap.size,6,none⟩=some (.slice C cn cc):=(blk_cell HBX8.out 6).trans rfl;have z7:w8.cell? ⟨w.heap.size,7,none⟩=some (.slice D dn dc):=(blk_cell HBX8.out 7).trans rfl
  have HF9:=Lib.hid (beginOf_is G HG.out HOL.out.1 HOL.out.2 w8 _ _ _ _ (HS.out.1.keep k09) (HS.out.2.1.keep k09) (HS.out.2.2.1.keep k09) (HS.out.2.2.2.keep k09))
  go_wp2_with fail
  refine HF9.out.mono ?_
  rintro e w9 ⟨d9,rfl,k9,hfm9⟩
  have k10:=k09.trans k9
  have kf9:=(Keep.refl (fun _=>True) w9).alloc (.cells #[.int .u64 (forms:Int),.bool false] 38)
  have HP9:=Lib.hid (put_is 17 (by omega) (begF G) (by show 8≤1000;omega) (by show 0<8;omega) (fun ks h=>(fields_able (by omega) HOK.out.able h (by show 8≤1000;omega) HOK.out.wide).1) w9.heap.size false _ _ (hfm9.keep kf9) ⟨forms,blk_new w9 _⟩)
  have hsz9:=k10.size
  have hs9:=k9.size
  clear hfm9
  go_wp2_with fail
  refine HP9.out.mono ?_
  rintro e wp ⟨sl9,bt,ks9,rfl,kp,-,hrow9,hpk9,henc9⟩
  have k11:New w wp:=(k10.alloc (.cells #[.int .u64 (forms:Int),.bool false] 38)).then kp (fun i hi _=>by show i≠w9.heap.size;omega)
  have hlen9:=henc9.short
  have hwt9:=(fields_able (c:=17) (od:=0) (by omega) HOK.out.able hpk9 (by show 8≤1000;omega) HOK.out.wide).2
  simp only [wts,Nat.add_zero]at hlen9
  have hr100:r.length≤100:=by simp at h100;omega
  have happ:=hrow9.appC (HB.out.keep k11) (by omega) kp.size
  obtain⟨sk2,wq,hap,hrow2,kq,-⟩:=happ
  obtain⟨A9,c9,hsh9⟩:=hrow9.shape
  subst hsh9
  have HAP:=Lib.hid hap
  have kfar:∀i,i<w9.heap.size→some i≠(Value.slice A9 bt.length c9).ownBlock:=fun i hi=>hrow9.far i (by simp;omega)
  have k12:New w wq:=k11.then kq (fun i hi _=>kfar i (by omega))
  have HRD9:=Lib.hid (begBack HOK.out hpk9 henc9 wq (HV.out.new k12) sk2 (r:=r) hrow2.out.here (by rw [List.length_append];omega))
  have q9:=k9.blk HBX8.out trivial
  have l9:=lt_blk q9
  have HQQ:=Lib.hid (kq.blk (kp.blk (blk_alloc q9 (.cells #[.int .u64 (forms:Int),.bool false] 38)) (show w.heap.size≠w9.heap.size by omega)) (kfar _ l9))
  clear q9
  obtain⟨A10,c10,hsh10⟩:=hrow2.shape
  obtain⟨nb,hnb⟩:∃nb,nb=(bt++r).length:=⟨_,rfl⟩
  rw [←hnb]at hsh10
  subst hsh10
  clear hnb
  clear hap hrow9 hrow2 kq hpk9 henc9 hlen9 hwt9
  go_wp2_with (at_builtin;refine wpList_append_eq rfl _ _ 27 rfl _ _ _ _ rfl rfl HAP.out ?_)
  refine HRD9.out.mono ?_
  rintro e wu ⟨U1,m1,e1,U2,m2,e2,U3,m3,e3,U4,m4,e4,us9,qs9,rest9,rfl,ku,hfs9,hus9,hrest9⟩
  have k13:=k12.trans ku
  have HSC9:=Lib.hid (beg_same HOK.out hfs9.1 hfs9.2)
  have HU9:=Lib.hid hus9
  have HR9:=Lib.hid hrest9.toC
  clear hus9 hrest9 hfs9
  have kO9:=(Keep.refl (fun _=>True) wu).alloc (.cells #[.slice U1 m1 e1,.int .u32 (G.no:Int),.int .u32 (G.iw:Int),.int .u32 (G.ow:Int),.int .u32 (G.hm:Int),.slice U2 m2 e2,.slice U3 m3 e3,.slice U4 m4 e4] 54)
  have k14:=k13.trans kO9
  have mm:=(Keep.refl (fun _=>True) (wu.alloc (.cells #[.slice U1 m1 e1,.int .u32 (G.no:Int),.int .u32 (G.iw:Int),.int .u32 (G.ow:Int),.int .u32 (G.hm:Int),.slice U2 m2 e2,.slice U3 m3 e3,.slice U4 m4 e4] 54))).drew
  have b7:(wu.alloc (.cells #[.slice U1 m1 e1,.int .u32 (G.no:Int),.int .u32 (G.iw:Int),.int .u32 (G.ow:Int),.int .u32 (G.hm:Int),.slice U2 m2 e2,.slice U3 m3 e3,.slice U4 m4 e4] 54)).drew.heap[w.heap.size]? =some (.cells #[.slice R rn rc,.int .u32 (G.no:Int),.int .u32 (G.iw:Int),.int .u32 (G.ow:Int),.int .u32 (G.hm:Int),.slice B bn bc,.slice C cn cc,.slice D dn dc] 54 (0,0)):=kO9.blk (ku.blk HQQ.out trivial) trivial
  have b8:(wu.alloc (.cells #[.slice U1 m1 e1,.int .u32 (G.no:Int),.int .u32 (G.iw:Int),.int .u32 (G.ow:Int),.int .u32 (G.hm:Int),.slice U2 m2 e2,.slice U3 m3 e3,.slice U4 m4 e4] 54)).drew.heap[wu.heap.size]? =some (.cells #[.slice U1 m1 e1,.int .u32 (G.no:Int),.int .u32 (G.iw:Int),.int .u32 (G.ow:Int),.int .u32 (G.hm:Int),.slice U2 m2 e2,.slice U3 m3 e3,.slice U4 m4 e4] 54 (0,0)):=blk_new wu (.cells #[.slice U1 m1 e1,.int .u32 (G.no:Int),.int .u32 (G.iw:Int),.int .u32 (G.ow:Int),.int .u32 (G.hm:Int),.slice U2 m2 e2,.slice U3 m3 e3,.slice U4 m4 e4] 54)
  have ls0:(wu.alloc (.cells #[.slice U1 m1 e1,.int .u32 (G.no:Int),.int .u32 (G.iw:Int),.int .u32 (G.ow:Int),.int .u32 (G.hm:Int),.slice U2 m2 e2,.slice U3 m3 e3,.slice U4 m4 e4] 54)).drew.cell? ⟨w.heap.size,0,none⟩=some (.slice R rn rc):=(blk_cell b7 0).trans rfl;have ls1:(wu.alloc (.cells #[.slice U1 m1 e1,.int .u32 (G.no:Int),.int .u32 (G.iw:Int),.int .u32 (G.ow:Int),.int .u32 (G.hm:Int),.slice U2 m2 e2,.slice U3 m3 e3,.slice U4 m4 e4] 54)).drew.cell? ⟨w.heap.size,1,none⟩=some (.int .u32 (G.no:Int)):=(blk_cell b7 1).trans rfl;have ls2:(wu.alloc (.cells #[.slice U1 m1 e1,.int .u32 (G.no:Int),.int .u32 (G.iw:Int),.int .u32 (G.ow:Int),.int .u32 (G.hm:Int),.slice U2 m2 e2,.slice U3 m3 e3,.slice U4 m4 e4] 54)).drew.cell? ⟨w.heap.size,2,none⟩=some (.int .u32 (G.iw:Int)):=(blk_cell b7 2).trans rfl;have ls3:(wu.alloc (.cells #[.slice U1 m1 e1,.int .u32 (G.no:Int),.int .u32 (G.iw:Int),.int .u32 (G.ow:Int),.int .u32 (G.hm:Int),.slice U2 m2 e2,.slice U3 m3 e3,.slice U4 m4 e4] 54)).drew.cell? ⟨w.heap.size,3,none⟩=some (.int .u32 (G.ow:Int)):=(blk_cell b7 3).trans rfl;have ls4:(wu.alloc (.cells #[.slice U1 m1 e1,.int .u32 (G.no:Int),.int .u32 (G.iw:Int),.int .u32 (G.ow:Int),.int .u32 (G.hm:Int),.slice U2 m2 e2,.slice U3 m3 e3,.slice U4 m4 e4] 54)).drew.cell? ⟨w.heap.size,4,none⟩=some (.int .u32 (G.hm:Int)):=(blk_cell b7 4).trans rfl;have ls5:(wu.alloc (.cells #[.slice U1 m1 e1,.int .u32 (G.no:Int),.int .u32 (G.iw:Int),.int .u32 (G.ow:Int),.int .u32 (G.hm:Int),.slice U2 m2 e2,.slice U3 m3 e3,.slice U4 m4 e4] 54)).drew.cell? ⟨w.heap.size,5,none⟩=some (.slice B bn bc):=(blk_cell b7 5).trans rfl;have ls6:(wu.alloc (.cells #[.slice U1 m1 e1,.int .u32 (G.no:Int),.int .u32 (G.iw:Int),.int .u32 (G.ow:Int),.int .u32 (G.hm:Int),.slice U2 m2 e2,.slice U3 m3 e3,.slice U4 m4 e4] 54)).drew.cell? ⟨w.heap.size,6,none⟩=some (.slice C cn cc):=(blk_cell b7 6).trans rfl;have ls7:(wu.alloc (.cells #[.slice U1 m1 e1,.int .u32 (G.no:Int),.int .u32 (G.iw:Int),.int .u32 (G.ow:Int),.int .u32 (G.hm:Int),.slice U2 m2 e2,.slice U3 m3 e3,.slice U4 m4 e4] 54)).drew.cell? ⟨w.heap.size,7,none⟩=some (.slice D dn dc):=(blk_cell b7 7).trans rfl
  have lo0:(wu.alloc (.cells #[.slice U1 m1 e1,.int .u32 (G.no:Int),.int .u32 (G.iw:Int),.int .u32 (G.ow:Int),.int .u32 (G.hm:Int),.slice U2 m2 e2,.slice U3 m3 e3,.slice U4 m4 e4] 54)).drew.cell? ⟨wu.heap.size,0,none⟩=some (.slice U1 m1 e1):=(blk_cell b8 0).trans rfl;have lo1:(wu.alloc (.cells #[.slice U1 m1 e1,.int .u32 (G.no:Int),.int .u32 (G.iw:Int),.int .u32 (G.ow:Int),.int .u32 (G.hm:Int),.slice U2 m2 e2,.slice U3 m3 e3,.slice U4 m4 e4] 54)).drew.cell? ⟨wu.heap.size,1,none⟩=some (.int .u32 (G.no:Int)):=(blk_cell b8 1).trans rfl;have lo2:(wu.alloc (.cells #[.slice U1 m1 e1,.int .u32 (G.no:Int),.int .u32 (G.iw:Int),.int .u32 (G.ow:Int),.int .u32 (G.hm:Int),.slice U2 m2 e2,.slice U3 m3 e3,.slice U4 m4 e4] 54)).drew.cell? ⟨wu.heap.size,2,none⟩=some (.int .u32 (G.iw:Int)):=(blk_cell b8 2).trans rfl;have lo3:(wu.alloc (.cells #[.slice U1 m1 e1,.int .u32 (G.no:Int),.int .u32 (G.iw:Int),.int .u32 (G.ow:Int),.int .u32 (G.hm:Int),.slice U2 m2 e2,.slice U3 m3 e3,.slice U4 m4 e4] 54)).drew.cell? ⟨wu.heap.size,3,none⟩=some (.int .u32 (G.ow:Int)):=(blk_cell b8 3).trans rfl;have lo4:(wu.alloc (.cells #[.slice U1 m1 e1,.int .u32 (G.no:Int),.int .u32 (G.iw:Int),.int .u32 (G.ow:Int),.int .u32 (G.hm:Int),.slice U2 m2 e2,.slice U3 m3 e3,.slice U4 m4 e4] 54)).drew.cell? ⟨wu.heap.size,4,none⟩=some (.int .u32 (G.hm:Int)):=(blk_cell b8 4).trans rfl;have lo5:(wu.alloc (.cells #[.slice U1 m1 e1,.int .u32 (G.no:Int),.int .u32 (G.iw:Int),.int .u32 (G.ow:Int),.int .u32 (G.hm:Int),.slice U2 m2 e2,.slice U3 m3 e3,.slice U4 m4 e4] 54)).drew.cell? ⟨wu.heap.size,5,none⟩=some (.slice U2 m2 e2):=(blk_cell b8 5).trans rfl;have lo6:(wu.alloc (.cells #[.slice U1 m1 e1,.int .u32 (G.no:Int),.int .u32 (G.iw:Int),.int .u32 (G.ow:Int),.int .u32 (G.hm:Int),.slice U2 m2 e2,.slice U3 m3 e3,.slice U4 m4 e4] 54)).drew.cell? ⟨wu.heap.size,6,none⟩=some (.slice U3 m3 e3):=(blk_cell b8 6).trans rfl;have lo7:(wu.alloc (.cells #[.slice U1 m1 e1,.int .u32 (G.no:Int),.int .u32 (G.iw:Int),.int .u32 (G.ow:Int),.int .u32 (G.hm:Int),.slice U2 m2 e2,.slice U3 m3 e3,.slice U4 m4 e4] 54)).drew.cell? ⟨wu.heap.size,7,none⟩=some (.slice U4 m4 e4):=(blk_cell b8 7).trans rfl
  have HFA:=Lib.hid (fun W (k:New (wu.alloc (.cells #[.slice U1 m1 e1,.int .u32 (G.no:Int),.int .u32 (G.iw:Int),.int .u32 (G.ow:Int),.int .u32 (G.hm:Int),.slice U2 m2 e2,.slice U3 m3 e3,.slice U4 m4 e4] 54)) W)=>beginOf_is G HG.out HOL.out.1 HOL.out.2 W _ _ _ _ (HS.out.1.keep (k14.trans k)) (HS.out.2.1.keep (k14.trans k)) (HS.out.2.2.1.keep (k14.trans k)) (HS.out.2.2.2.keep (k14.trans k)))
  have HFB:=Lib.hid (fun W (k:New (wu.alloc (.cells #[.slice U1 m1 e1,.int .u32 (G.no:Int),.int .u32 (G.iw:Int),.int .u32 (G.ow:Int),.int .u32 (G.hm:Int),.slice U2 m2 e2,.slice U3 m3 e3,.slice U4 m4 e4] 54)) W)=>beginOf_is { G with props:=us9 } ⟨HG.out.rem,HG.out.no,HG.out.iw,HG.out.ow,HG.out.hm⟩ HOL.out.1 HOL.out.2 W _ _ _ _ ((HU9.out.1.keep kO9).keep k) ((HU9.out.2.1.keep kO9).keep k) ((HU9.out.2.2.1.keep kO9).keep k) ((HU9.out.2.2.2.keep kO9).keep k))
  have HSA:=Lib.hid (fun W sA sB h1 h2=>same_is 17 (by omega) (begF G) (begF { G with props:=us9 }) (by show 8≤1000;omega) (by show 8≤8;omega) HSC9.out W sA sB h1 h2)
  have HLE:=Lib.hid (fun W (k:New (wu.alloc (.cells #[.slice U1 m1 e1,.int .u32 (G.no:Int),.int .u32 (G.iw:Int),.int .u32 (G.ow:Int),.int .u32 (G.hm:Int),.slice U2 m2 e2,.slice U3 m3 e3,.slice U4 m4 e4] 54)) W)=>left_is r W rest9 (.slice Ab r.length cb) ((HR9.out.keep kO9).keep k) (HB.out.keep (k14.trans k)))
  clear b7 b8
  go_wp2_with fail
  go_region_law
   (first
    | (go_simp;go_at_call 20;((with_reducible refine(HFA.out _ (by assumption)).mono ?_));rintro e wa ⟨da,rfl,ka,hfa⟩;have mm:=Keep.trans (show New (wu.alloc (.cells #[.slice U1 m1 e1,.int .u32 (G.no:Int),.int .u32 (G.iw:Int),.int .u32 (G.ow:Int),.int .u32 (G.hm:Int),.slice U2 m2 e2,.slice U3 m3 e3,.slice U4 m4 e4] 54)) _ by assumption) ka;have lo0:=ka.cell lo0 trivial;have lo1:=ka.cell lo1 trivial;have lo2:=ka.cell lo2 trivial;have lo3:=ka.cell lo3 trivial;have lo4:=ka.cell lo4 trivial;have lo5:=ka.cell lo5 trivial;have lo6:=ka.cell lo6 trivial;have lo7:=ka.cell lo7 trivial)
    | (go_simp;go_at_call 20;((with_reducible refine(HFB.out _ (by assumption)).mono ?_));rintro e wb ⟨db,rfl,kb,hfb⟩;have mm:=Keep.trans (show New (wu.alloc (.cells #[.slice U1 m1 e1,.int .u32 (G.no:Int),.int .u32 (G.iw:Int),.int .u32 (G.ow:Int),.int .u32 (G.hm:Int),.slice U2 m2 e2,.slice U3 m3 e3,.slice U4 m4 e4] 54)) _ by assumption) kb;have hfa:=FM.keep hfa kb)
    | (go_simp;go_at_call 10;refine(HSA.out _ _ _ hfa hfb).mono ?_;rintro e wz ⟨rfl,kz⟩;have mm:=Keep.trans (show New (wu.alloc (.cells #[.slice U1 m1 e1,.int .u32 (G.no:Int),.int .u32 (G.iw:Int),.int .u32 (G.ow:Int),.int .u32 (G.hm:Int),.slice U2 m2 e2,.slice U3 m3 e3,.slice U4 m4 e4] 54)) _ by assumption) kz)
    | (go_simp;go_at_call 13;((with_reducible refine(HLE.out _ (by assumption)).mono ?_));rintro e wy ⟨rfl,ky⟩;have mm:=Keep.trans (show New (wu.alloc (.cells #[.slice U1 m1 e1,.int .u32 (G.no:Int),.int .u32 (G.iw:Int),.int .u32 (G.ow:Int),.int .u32 (G.hm:Int),.slice U2 m2 e2,.slice U3 m3 e3,.slice U4 m4 e4] 54)) _ by assumption) ky))
  all_goals
   go_wp2
   go_ret
   exact⟨rfl,k14.trans mm⟩
end Go.Proofs.YtfoegolfadhmjaaGreatDoor
namespace Go.Proofs.YtfoegolfadhmjaaGreatDoor
open Go.ChangeShapes Go.WideShapes Go.ChangeAt Go.RowKit Go.Lib
theorem stand54:Tryz.prog.wantsStandIn 54=false:=by kernel_rfl
theorem begin_lifted(os:Os)(started:os.Started)(H:Type)(enc:TypeId×Value→H):
 ReturnsInHanded {} Tryz.checked os 5 .any (fun w args=>(Rows.fnReadBeginSpec.pre enc Tryz.prog Tryz.f5 [] false w args∧laidMetH Tryz.prog laidL w)∧sizedMet enc Tryz.prog Tryz.f5 (OpenSpec.ofChange Rows.fnReadBeginSpec) false w args)
  (Rows.fnReadBeginSpec.post enc Tryz.prog Tryz.f5 false true false false):=by
 refine returnsInHanded_of_change_and (C:=Tryz.checked) (X:=fun w _=>laidMetH Tryz.prog laidL w) (fun _ _ _ hh h=>h.of_heap hh) own started (by kernel_rfl) Tryz.func5
  (ChangeSpec.witness_shaped (enc:=enc) (C:=Tryz.checked) (os:=os) (X:=fun w _=>laidMetH Tryz.prog laidL w) false (laidWorld os) #[.agg #[.slice none 0 0,.int .u32 0,.int .u32 0,.int .u32 0,.int .u32 0,.slice none 0 0,.slice none 0 0,.slice none 0 0],.int .u64 0,.slice none 0 0] 8 rfl (World.shaped_of_RefB (by kernel_rfl) (by kernel_rfl)) (by kernel_rfl) (by kernel_rfl) (by kernel_rfl)
   (by rw [MakeChecks.laidMetH_plain _ _ _ laid_own];exact laid_met os _)) ?_
 intro W base args ds gs before hval0 hW _ _ hL _
 have hval:∀(j:Nat) t v,Tryz.f5.params[j]? =some t→args[j]? =some v→Value.okWide Tryz.prog W .any base t v:=hval0
 have hW':=hW
 have hlt:=hW.lt
 obtain⟨p,q,hA0,hV,rfl,hfz,hnd⟩:=hW
 have hA:DataW.TrodAll enc Tryz.prog W 0 (fun _=>true) true Tryz.f5.params.toList args.toList ds p:=hA0
 rw [Tryz.params5]at hA hval
 obtain⟨v0,v1,v2,d0,d1,d2,p0,p1,p2,rfl,rfl,rfl,h0,h1,h2⟩:=trodAll_three hA
 obtain⟨rfl,rfl⟩:=trodVars_none hV
 obtain⟨cs,rfl,hcs⟩:=okWide_struct Tryz.underlying54 (hval 0 54 v0 rfl rfl)
 obtain⟨z,rfl⟩:=okWide_int Tryz.underlying26 (hval 1 26 v1 rfl rfl)
 obtain⟨A,n,c,rfl⟩:=okWide_slice Tryz.underlying27 (hval 2 27 v2 rfl rfl)
 obtain⟨f0,g0⟩:=id h0
 obtain⟨f1,g1⟩:=id h1
 obtain⟨f2,g2⟩:=id h2
 obtain⟨G,sr,so,sd,sp,hG,e0,s0,s1,s2,s3⟩:=trod_begin g0
 obtain⟨z',e1,hz⟩:=trod_int1 Tryz.underlying26 g1
 obtain⟨r,hr⟩:=trod_bytes g2
 cases e1
 obtain⟨cs⟩:=cs
 obtain rfl:cs=_:=e0
 have hz':0≤z∧z<18446744073709551616:=by
  simp only [Lit.wf,decide_eq_true_eq,Bool.and_eq_true]at hz
  have u1:IntKind.u64.min=0:=by decide
  have u2:IntKind.u64.max=18446744073709551615:=by decide
  omega
 obtain⟨m,rfl⟩:=Int.eq_ofNat_of_zero_le hz'.1
 rw [MakeChecks.laidMetH_plain _ _ _ laid_own]at hL
 clear hA0 hval0 hval
 refine(law5_is G hG m (by omega) r W (vld_laid hL) sr so sd sp _ s0 s1 s2 s3 hr).mono ?_
 rintro e W' ⟨rfl,k⟩
 have bel:=New.below k
 have hl:∀x∈p0++p1++p2,x.block<W.heap.size:=fun x hx=>hlt x (by simpa using hx)
 refine⟨_,rfl,_,_,_,[],p0++(p1++p2),[],hW',trodAll_mk1 (shut_bool Tryz.underlying4 _),trodAll_mk3 ?_ ?_ ?_,rfl,bel.frame _,fun h=>by cases h⟩
 ·exact Below.trod laid_out (by kernel_rfl) (of_decide_eq_true (by kernel_rfl)) h0 bel fun x hx=>hl x (by simp [hx])
 ·exact Below.trod laid_out (by kernel_rfl) (of_decide_eq_true (by kernel_rfl)) h1 bel fun x hx=>hl x (by simp [hx])
 ·exact Below.trod laid_out (by kernel_rfl) (of_decide_eq_true (by kernel_rfl)) h2 bel fun x hx=>hl x (by simp [hx])
theorem begin_joined:joinedFacts Tryz.prog 5 Tryz.f5 Rows.fnReadBeginSpec Rows.fnReadBeginRow=true:=by
 unfold joinedFacts
 simp only [Bool.and_eq_true]
 repeat' (refine And.intro ?_ ?_)
 all_goals (as_aux_lemma=>kernel_rfl)
theorem begin_named:Tryz.prog.funcNamed "given.example/pub-saddlebag/laws.FnReadBegin" =some 5:=by kernel_rfl
theorem begin_inst:Tryz.f5.isInstance Tryz.prog Rows.fnReadBeginRow.origin Rows.fnReadBeginRow.targs:=of_decide_eq_true (by kernel_rfl)
theorem begin_wrap:Tryz.f5.isWrapper Tryz.prog Rows.fnReadBeginRow.wrapper Rows.fnReadBeginRow.mainSum:=by
 unfold Func.isWrapper
 first | (rw [if_pos (by decide+kernel)];kernel_rfl) | (rw [if_neg (by decide+kernel)];exact⟨rfl,rfl⟩)
theorem fnReadBegin_said:Rows.FnReadBeginSaid:=
 OpenClaim.holds_of_wide 5 Tryz.f5 rfl rfl rfl rfl rfl rfl rfl ⟨rfl,rfl,rfl,rfl,rfl⟩ rfl rfl rfl rfl rfl begin_named Tryz.func5 begin_joined begin_inst begin_wrap
  (fun os started H enc _=>begin_lifted os started H enc)
theorem begin_wf:Rows.fnReadBeginRow.wfByText (OpenSpec.ofChange Rows.fnReadBeginSpec)=true:=by kernel_rfl
theorem begin_goes:false=Rows.fnReadBeginRow.goesBy Tryz.pinned.checked.prog:=by kernel_rfl
theorem fnReadBegin_card:Rows.FnReadBeginCardSaid:=
 Claim7.holds_tied_plain_at .later [] [.data,.sentinel,.pinned] true (true,"07602ffb06a6c960d0abeb22ff7e34fae122d74c4eee09c732784a76be53c40a") true
  fnReadBegin_said (fun _ h=>by cases h) begin_wf (fun _ h=>by cases h) fnReadBegin_row_tie rfl ⟨rfl,rfl⟩ card_main rfl
  (fun f fn hf hfn=>by
   obtain rfl:f=5:=Option.some.inj (begin_named.symm.trans hf)|>.symm
   obtain rfl:fn=Tryz.f5:=(Option.some.inj (Tryz.func5.symm.trans hfn)).symm
   exact⟨card_looks,fun j t ht=>by
    rw [Tryz.params5]at ht
    rcases j with _ | _ | _ | j
    ·obtain rfl:t=54:=by simpa using ht.symm
     exact stand54
    ·obtain rfl:t=26:=by simpa using ht.symm
     exact stand26
    ·obtain rfl:t=27:=by simpa using ht.symm
     exact stand27
    ·simp at ht⟩)
  begin_goes
end Go.Proofs.YtfoegolfadhmjaaGreatDoor
