/- Short names for the library's facts; no condition. -/
import Derived.Lib.Hide
import Derived.OneCell
set_option linter.all false
namespace Go.Proofs.YtnkbglhdpmbgfaaGreatFmt
open Go Go.RowKit
theorem hd_{p:Prop}(h:p):Hid p:=Lib.hid h
theorem a2_{a b:Prop}(x:a)(y:b):Hid (a∧b):=Lib.hid ⟨x,y⟩
theorem a3_{a b c:Prop}(x:a)(y:b)(z:c):Hid (a∧b∧c):=Lib.hid ⟨x,y,z⟩
theorem a4_{a b c d:Prop}(x:a)(y:b)(z:c)(u:d):Hid (a∧b∧c∧d):=Lib.hid ⟨x,y,z,u⟩
theorem a5_{a b c d e:Prop}(x:a)(y:b)(z:c)(u:d)(v:e):Hid (a∧b∧c∧d∧e):=Lib.hid ⟨x,y,z,u,v⟩
theorem la_{α:Type _}{as bs:List α}:(as++bs).length=as.length+bs.length:=List.length_append
theorem lc_{α:Type _}{a:α}{as:List α}:(a::as).length=as.length+1:=rfl
theorem ln_{α:Type _}:([]:List α).length=0:=rfl
theorem lm_{α:Type _}{β:Type _}{as:List α}(f:α→β):(as.map f).length=as.length:=List.length_map f
theorem ltb{w:World}{b:Nat}{o:Obj}(h:w.heap[b]?=some o):b < w.heap.size:=lt_of_block h
theorem aa_{α:Type _}(as bs cs:List α):as++bs++cs=as++(bs++cs):=List.append_assoc as bs cs
end Go.Proofs.YtnkbglhdpmbgfaaGreatFmt
