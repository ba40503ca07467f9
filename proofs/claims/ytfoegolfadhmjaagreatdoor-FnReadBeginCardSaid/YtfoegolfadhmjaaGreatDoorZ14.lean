/- An error off the buffer: its three fields. -/
import Derived.Test.YtfoegolfadhmjaaGreatDoorZ12
import Derived.Test.YtfoegolfadhmjaaGreatDoorZ13
set_option linter.all false
set_option maxRecDepth 100000
set_option maxHeartbeats 4000000
namespace Go.Proofs.YtfoegolfadhmjaaGreatDoor
open Go.RowKit Go.WideShapes
def FieldM(ps:List (V×V))(b:List UInt8):Prop:=
 (b=[64]∧ps=[])∨∃h body,b=h++body∧Hd 193 209 (2*ps.length) body h∧TextsL ps body∧(ps.map fun q=>q.1.text).Nodup∧2*ps.length≤1000∧2*ps.length≤body.length
def InfoD(ok:Nat→Prop)(w:World)(ps:List (V×V))(s:Value):Prop:=(s=.map none∧ps=[])∨TMapD ok w ps s
theorem TMapD.keep{ok ok':Nat→Prop}{w w':World}{ps:List (V×V)}{s:Value}(h:TMapD ok w ps s)(k:Keep ok' w w')(ho:∀k,k<w.heap.size→ok k→ok' k):TMapD ok w' ps s:=by
 obtain⟨m,es,clock,h1,h2,h3,h4,h5⟩:=h
 exact⟨m,es,clock,h1,h2,h3,h4,h5.keep k ho⟩
theorem InfoD.keep{ok ok':Nat→Prop}{w w':World}{ps:List (V×V)}{s:Value}(h:InfoD ok w ps s)(k:Keep ok' w w')(ho:∀k,k<w.heap.size→ok k→ok' k):InfoD ok w' ps s:=
 h.imp id fun h=>h.keep k ho
theorem Buf.set{w:World}{g b:Nat}{rem:List UInt8}{cs:Array Value}{T:TypeId}(h:Buf w g rem)(hb:w.heap[b]? =some (.cells cs T (0,0)))(hT:T≠5)(hbg:b≠g)(i:Nat)(u:Value):Buf (w.setCell ⟨b,i,none⟩ u) g rem:=by
 obtain⟨d,n,c,k,hg,hdg,⟨cells,hd,hc⟩,hr⟩:=h
 have hdb:d≠b:=fun e=>by
  subst e
  rw [hd]at hb
  simp only [Option.some.injEq,Obj.cells.injEq]at hb
  exact hT hb.2.1.symm
 exact⟨d,n,c,k,blk_far hg (p:=⟨b,i,none⟩) (Ne.symm hbg) _,hdg,⟨cells,blk_far hd (p:=⟨b,i,none⟩) hdb _,hc⟩,hr⟩
end Go.Proofs.YtfoegolfadhmjaaGreatDoor
