/- The common imports of these texts and four short names of theorems of the library. -/
import Derived.Test.YtfkecmlmnhbmoaaGreatDoorProg
import Derived.WalkLawsBesides
import Derived.WalkSpells
import Derived.BigQuiet
import Derived.Deep.RegionHeld3
import Derived.Deep.LoopGhost
import Derived.StillTailTactics
import Derived.Lib.Hide
import Derived.Laws.EntriesVeiled
namespace Go.Proofs.YtfkecmlmnhbmoaaGreatDoor
open Go Go.RowKit
theorem xhd {p:Prop} (h:p):Go.RowKit.Hid p:=h
theorem xgr (w:World) (b:Option Nat):w.grownBy w b:=World.grownBy.refl w b
theorem xgl {A:Type} {a:Array A} {i:Nat} {x:A} (h:a[i]?=some x):i<a.size:=(Array.getElem?_eq_some_iff.1 h).1
theorem xbt (b:Bool):b=true∨b=false:=Bool.eq_false_or_eq_true b
theorem xh2 {a b:Prop} (s:a) (t:b):Go.RowKit.Hid a∧Go.RowKit.Hid b:=⟨s,t⟩
theorem xh3 {a b c:Prop} (s:a) (t:b) (u:c):Go.RowKit.Hid a∧Go.RowKit.Hid b∧Go.RowKit.Hid c:=⟨s,t,u⟩
theorem xh4 {a b c d:Prop} (s:a) (t:b) (u:c) (v:d):Go.RowKit.Hid a∧Go.RowKit.Hid b∧Go.RowKit.Hid c∧Go.RowKit.Hid d:=⟨s,t,u,v⟩
theorem xh5 {a b c d e:Prop} (s:a) (t:b) (u:c) (v:d) (w:e):Go.RowKit.Hid a∧Go.RowKit.Hid b∧Go.RowKit.Hid c∧Go.RowKit.Hid d∧Go.RowKit.Hid e:=⟨s,t,u,v,w⟩
theorem xh6 {a b c d e f:Prop} (s:a) (t:b) (u:c) (v:d) (w:e) (x:f):Go.RowKit.Hid a∧Go.RowKit.Hid b∧Go.RowKit.Hid c∧Go.RowKit.Hid d∧Go.RowKit.Hid e∧Go.RowKit.Hid f:=⟨s,t,u,v,w,x⟩
theorem xh7 {a b c d e f g:Prop} (s:a) (t:b) (u:c) (v:d) (w:e) (x:f) (y:g):Go.RowKit.Hid a∧Go.RowKit.Hid b∧Go.RowKit.Hid c∧Go.RowKit.Hid d∧Go.RowKit.Hid e∧Go.RowKit.Hid f∧Go.RowKit.Hid g:=⟨s,t,u,v,w,x,y⟩
theorem xh8 {a b c d e f g h:Prop} (s:a) (t:b) (u:c) (v:d) (w:e) (x:f) (y:g) (z:h):Go.RowKit.Hid a∧Go.RowKit.Hid b∧Go.RowKit.Hid c∧Go.RowKit.Hid d∧Go.RowKit.Hid e∧Go.RowKit.Hid f∧Go.RowKit.Hid g∧Go.RowKit.Hid h:=⟨s,t,u,v,w,x,y,z⟩
end Go.Proofs.YtfkecmlmnhbmoaaGreatDoor
