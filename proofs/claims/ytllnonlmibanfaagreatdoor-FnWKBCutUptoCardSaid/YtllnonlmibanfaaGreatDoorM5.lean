/- Texts of the proof, merged: WC1 WC2. -/
import Derived.Test.YtllnonlmibanfaaGreatDoorM4
import Derived.Test.YtllnonlmibanfaaGreatDoorProg
import Derived.KernelRfl
set_option linter.unusedVariables false
set_option maxRecDepth 100000
namespace Go.Proofs.YtllnonlmibanfaaGreatDoor.WC
open Go Go.Av
noncomputable section
noncomputable abbrev c4:=codeAt (bodyOf Tryz.f4)
noncomputable abbrev c13:=codeAt (bodyOf Tryz.f13)
noncomputable abbrev c14:=codeAt (bodyOf Tryz.f14)
noncomputable abbrev c15:=codeAt (bodyOf Tryz.f15)
noncomputable abbrev c16:=codeAt (bodyOf Tryz.f16)
noncomputable abbrev c18:=codeAt (bodyOf Tryz.f18)
noncomputable abbrev c21:=codeAt (bodyOf Tryz.f21)
noncomputable abbrev c33:=codeAt (bodyOf Tryz.f33)
noncomputable abbrev c34:=codeAt (bodyOf Tryz.f34)
noncomputable abbrev c48:=codeAt (bodyOf Tryz.f48)
noncomputable abbrev c54:=codeAt (bodyOf Tryz.f54)
noncomputable abbrev c60:=codeAt (bodyOf Tryz.f60)
noncomputable abbrev c63:=codeAt (bodyOf Tryz.f63)
noncomputable abbrev c65:=codeAt (bodyOf Tryz.f65)
noncomputable abbrev c66:=codeAt (bodyOf Tryz.f66)
noncomputable abbrev c68:=codeAt (bodyOf Tryz.f68)
noncomputable abbrev c69:=codeAt (bodyOf Tryz.f69)
noncomputable abbrev c71:=codeAt (bodyOf Tryz.f71)
noncomputable abbrev c73:=codeAt (bodyOf Tryz.f73)
noncomputable abbrev c78:=codeAt (bodyOf Tryz.f78)
noncomputable abbrev c81:=codeAt (bodyOf Tryz.f81)
noncomputable abbrev c83:=codeAt (bodyOf Tryz.f83)
noncomputable abbrev c85:=codeAt (bodyOf Tryz.f85)
noncomputable abbrev c90:=codeAt (bodyOf Tryz.f90)
noncomputable abbrev c97:=codeAt (bodyOf Tryz.f97)
noncomputable abbrev c98:=codeAt (bodyOf Tryz.f98)
noncomputable abbrev c99:=codeAt (bodyOf Tryz.f99)
noncomputable abbrev c105:=codeAt (bodyOf Tryz.f105)
noncomputable abbrev c106:=codeAt (bodyOf Tryz.f106)
noncomputable abbrev c107:=codeAt (bodyOf Tryz.f107)
noncomputable abbrev c110:=codeAt (bodyOf Tryz.f110)
noncomputable abbrev c112:=codeAt (bodyOf Tryz.f112)
noncomputable abbrev c113:=codeAt (bodyOf Tryz.f113)
noncomputable abbrev c117:=codeAt (bodyOf Tryz.f117)
noncomputable abbrev c119:=codeAt (bodyOf Tryz.f119)
noncomputable abbrev c122:=codeAt (bodyOf Tryz.f122)
noncomputable abbrev c123:=codeAt (bodyOf Tryz.f123)
noncomputable abbrev c139:=codeAt (bodyOf Tryz.f139)
noncomputable abbrev c165:=codeAt (bodyOf Tryz.f165)
noncomputable abbrev kq{R:Type}(E:Env)(c:Code)(K:Ex→St→Option R):=kSeq (advOf E c) (evC E c) K
noncomputable abbrev lq{R:Type}(E:Env)(c:Code)(n:Nat)(st:St)(K:Ex→St→Option R):=loopN (advOf E c) (evC E c) n st K
noncomputable abbrev T0:Type:=(Ce×Unit×((List Int)×Int×Int×Unit)×(((Int×Unit)×Unit)×Unit)×Unit)⊕(Ce×Int×((List Int)×Int×Int×Unit)×(((Int×Unit)×Unit)×Unit)×Unit)⊕(Ce×Unit×((List Int)×Int×Int×Unit)×(((Int×Unit)×Unit)×Unit)×Unit)⊕(Ce×Unit×((List Int)×Int×Int×Unit)×(((Int×Unit)×Unit)×Unit)×Unit)⊕(Ce×Int×((List Int)×Int×Int×Unit)×(((Int×Unit)×Unit)×Unit)×Unit)⊕(Ce×Unit×((List Int)×Int×Int×Unit)×(((Int×Unit)×Unit)×Unit)×Unit)⊕(Ce×(Int×(Int×(Int×Unit)))×((List Int)×Int×Int×Unit)×(((Int×Unit)×Unit)×Unit)×Unit)⊕(Ce×(Int×(Int×Unit))×((List Int)×Int×Int×Unit)×(((Int×Unit)×Unit)×Unit)×Unit)⊕(Ce×Int×((List Int)×Int×Int×Unit)×(((Int×Unit)×Unit)×Unit)×Unit)
noncomputable abbrev T1:Type:=(List Int)×Int×Int×Unit
noncomputable abbrev T2:Type:=(Unit×T1×(((Int×Unit)×Unit)×Unit)×Unit)⊕(Int×T1×(((Int×Unit)×Unit)×Unit)×Unit)⊕(Unit×T1×(((Int×Unit)×Unit)×Unit)×Unit)⊕((ByteArray×Unit)×T1×(((Int×Unit)×Unit)×Unit)×Unit)
noncomputable abbrev T3:Type:=(Int×Unit×T1×(List Int)×Unit)⊕(Int×Unit×T1×(List Int)×Unit)⊕(Int×Unit×T1×(List Int)×Unit)⊕(Int×Unit×T1×(List Int)×Unit)
noncomputable abbrev T4:Type:=Int×Int×(List Nat)×Int×(List Int)×Unit
noncomputable abbrev T5:Type:=((Int×Unit)×Unit)×Unit
noncomputable abbrev T6:Type:=((List Nat)×(List Int)×Unit×T1×Unit)⊕((List Nat)×(List Int)×Unit×T1×Unit)⊕((List Nat)×(List Int)×Unit×T1×Unit)⊕((List Nat)×(List Int)×(Int×(Int×(Int×Unit)))×T1×Unit)⊕((List Nat)×(List Int)×Unit×T1×Unit)
noncomputable abbrev T7:Type:=Int×Int×(List Nat)×Int×(List (List Int))×Unit
noncomputable abbrev T8:Type:=((Int×(Int×Unit))×(Int×(List Ce)×Int×Unit)×(List Ce)×Unit)⊕(Unit×(Int×(List Ce)×Int×Unit)×(List Ce)×Unit)
noncomputable abbrev T9:Type:=(Int×Int×(List Nat)×Int×Unit×Unit)×((List Int)×Unit)×Unit
noncomputable abbrev T10:Type:=Int×Int×(List Nat)×Int×Unit
noncomputable abbrev T11:Type:=Int×Unit×T1×(List Int×Nat×Nat)×Unit
noncomputable abbrev T12:Type:=Int×((List Ce)×(Int×Unit))
noncomputable abbrev T13:Type:=Int×Unit×T1×Unit
noncomputable abbrev T14:Type:=Int×(Int×((List Nat)×(Int×Unit)))
noncomputable abbrev T15:Type:=(Int×Unit)×T5×Unit
noncomputable abbrev T16:Type:=Int×(List Ce)×Int×Unit
noncomputable abbrev T17:Type:=((Int×Int×Int×(List Nat)×(List Int)×(List (List Int))×(List Geo)×Unit)×Bool×Unit)
noncomputable abbrev T18:Type:=((List Nat)×Unit×T1×Unit)⊕((List Nat)×Unit×T1×Unit)⊕((List Nat)×Unit×T1×Unit)⊕((List Nat)×(Int×(Int×(Int×Unit)))×T1×Unit)⊕((List Nat)×Unit×T1×Unit)
noncomputable abbrev T19:Type:=Unit×T1×(List Nat)×Unit
noncomputable abbrev T20:Type:=Int×(Int×Unit)
noncomputable abbrev T21:Type:=Unit×T1×Unit
noncomputable abbrev T22:Type:=List (List Int)
noncomputable abbrev T23:Type:=List Int×Nat×Nat
noncomputable abbrev T24:Type:=Int×Unit×T1×(List Int)×Unit
noncomputable abbrev T25:Type:=(Ce×Unit×T5×Unit)⊕(Ce×Int×T5×Unit)⊕(Ce×Unit×T5×Unit)⊕(Ce×Unit×T5×Unit)⊕(Ce×Int×T5×Unit)⊕(Ce×Unit×T5×Unit)⊕(Ce×(Int×T20)×T5×Unit)⊕(Ce×T20×T5×Unit)⊕(Ce×Int×T5×Unit)
noncomputable abbrev nm(r:Nat)(k h:List Nat):Nat×Norm:=(r,⟨[],[],[],[],[],k,h,none⟩)
noncomputable abbrev ng(N r:Nat)(k h:List Nat):Nat×Norm:=(r,⟨[],[],[],[],[],k,h,some N⟩)
noncomputable abbrev a0:List Alt:=[⟨[.tr, .ifc 222 (.ep 5)],[some (.ifc 66 (.box [.k (.list (.int .u8)), .k (.int .i64), .k (.int .i8)])),some (.bsl [.fn 109 [.box [.k (.int .u8)]]])]⟩,⟨[.tr, .ifc 175 (.k (.int .u8))],[some (.ifc 66 (.box [.k (.list (.int .u8)), .k (.int .i64), .k (.int .i8)])),some (.bsl [.fn 109 [.box [.k (.int .u8)]]])]⟩,⟨[.tr, .ifc 222 (.ep 4)],[some (.ifc 66 (.box [.k (.list (.int .u8)), .k (.int .i64), .k (.int .i8)])),some (.bsl [.fn 109 [.box [.k (.int .u8)]]])]⟩,⟨[.tr, .ifc 222 (.ep 6)],[some (.ifc 66 (.box [.k (.list (.int .u8)), .k (.int .i64), .k (.int .i8)])),some (.bsl [.fn 109 [.box [.k (.int .u8)]]])]⟩,⟨[.tr, .ifc 179 (.k (.int .u32))],[some (.ifc 66 (.box [.k (.list (.int .u8)), .k (.int .i64), .k (.int .i8)])),some (.bsl [.fn 109 [.box [.k (.int .u8)]]])]⟩,⟨[.tr, .nili],[some (.ifc 66 (.box [.k (.list (.int .u8)), .k (.int .i64), .k (.int .i8)])),some (.bsl [.fn 109 [.box [.k (.int .u8)]]])]⟩,⟨[.tr, .ifc 186 (.k (.pair (.int .i64) (.pair (.int .i64) (.pair (.int .i64) .unit))))],[some (.ifc 66 (.box [.k (.list (.int .u8)), .k (.int .i64), .k (.int .i8)])),some (.bsl [.fn 109 [.box [.k (.int .u8)]]])]⟩,⟨[.tr, .ifc 218 (.k (.pair (.int .i64) (.pair (.int .i64) .unit)))],[some (.ifc 66 (.box [.k (.list (.int .u8)), .k (.int .i64), .k (.int .i8)])),some (.bsl [.fn 109 [.box [.k (.int .u8)]]])]⟩,⟨[.tr, .ifc 198 (.k (.int .u32))],[some (.ifc 66 (.box [.k (.list (.int .u8)), .k (.int .i64), .k (.int .i8)])),some (.bsl [.fn 109 [.box [.k (.int .u8)]]])]⟩]
noncomputable abbrev a1:List Alt:=[⟨[.ifc 127 (.k .unit)],[some (.ifc 66 (.box [.row 5 (.int .u8), .k (.int .i64), .k (.int .i8)])),none,none,some (.bsl [.fn 109 [.box [.k (.int .u8)]]])]⟩,⟨[.ifc 134 (.k (.int .i64))],[some (.ifc 66 (.box [.row 5 (.int .u8), .k (.int .i64), .k (.int .i8)])),none,none,some (.bsl [.fn 109 [.box [.k (.int .u8)]]])]⟩,⟨[.nili],[some (.ifc 66 (.box [.row 5 (.int .u8), .k (.int .i64), .k (.int .i8)])),none,none,some (.bsl [.fn 109 [.box [.k (.int .u8)]]])]⟩,⟨[.ifc 222 (.box [.k .str])],[some (.ifc 66 (.box [.row 5 (.int .u8), .k (.int .i64), .k (.int .i8)])),none,none,some (.bsl [.fn 109 [.box [.k (.int .u8)]]])]⟩]
noncomputable abbrev a2:List Alt:=[⟨[.k (.int .i64), .ifc 222 (.ep 4)],[some (.ifc 66 (.box [.k (.list (.int .u8)), .k (.int .i64), .k (.int .i8)])),some (.row 207 (.int .u8)),none]⟩,⟨[.k (.int .i64), .nili],[some (.ifc 66 (.box [.k (.list (.int .u8)), .k (.int .i64), .k (.int .i8)])),some (.row 207 (.int .u8)),none]⟩,⟨[.k (.int .i64), .ifc 222 (.ep 6)],[some (.ifc 66 (.box [.k (.list (.int .u8)), .k (.int .i64), .k (.int .i8)])),some (.row 207 (.int .u8)),none]⟩,⟨[.k (.int .i64), .ifc 222 (.ep 5)],[some (.ifc 66 (.box [.k (.list (.int .u8)), .k (.int .i64), .k (.int .i8)])),some (.row 207 (.int .u8)),none]⟩]
noncomputable abbrev a3:List Alt:=[⟨[.k (.int .i64), .ifc 222 (.ep 4)],[some (.ifc 66 (.box [.k (.list (.int .u8)), .k (.int .i64), .k (.int .i8)])),some (.row 5 (.int .u8)),none]⟩,⟨[.k (.int .i64), .nili],[some (.ifc 66 (.box [.k (.list (.int .u8)), .k (.int .i64), .k (.int .i8)])),some (.row 5 (.int .u8)),none]⟩,⟨[.k (.int .i64), .ifc 222 (.ep 6)],[some (.ifc 66 (.box [.k (.list (.int .u8)), .k (.int .i64), .k (.int .i8)])),some (.row 5 (.int .u8)),none]⟩,⟨[.k (.int .i64), .ifc 222 (.ep 5)],[some (.ifc 66 (.box [.k (.list (.int .u8)), .k (.int .i64), .k (.int .i8)])),some (.row 5 (.int .u8)),none]⟩]
noncomputable abbrev a4:List Alt:=[⟨[.row 65 .float, .row 3 (.int .i64), .ifc 222 (.ep 4)],[some (.ifc 66 (.box [.k (.list (.int .u8)), .k (.int .i64), .k (.int .i8)])),none,none]⟩,⟨[.row 65 .float, .row 3 (.int .i64), .ifc 222 (.ep 6)],[some (.ifc 66 (.box [.k (.list (.int .u8)), .k (.int .i64), .k (.int .i8)])),none,none]⟩,⟨[.row 65 .float, .row 3 (.int .i64), .ifc 222 (.ep 5)],[some (.ifc 66 (.box [.k (.list (.int .u8)), .k (.int .i64), .k (.int .i8)])),none,none]⟩,⟨[.row 65 .float, .row 3 (.int .i64), .ifc 186 (.k (.pair (.int .i64) (.pair (.int .i64) (.pair (.int .i64) .unit))))],[some (.ifc 66 (.box [.k (.list (.int .u8)), .k (.int .i64), .k (.int .i8)])),none,none]⟩,⟨[.row 65 .float, .row 3 (.int .i64), .nili],[some (.ifc 66 (.box [.k (.list (.int .u8)), .k (.int .i64), .k (.int .i8)])),none,none]⟩]
noncomputable abbrev a5:List Alt:=[⟨[.box [.k (.int .i64), .k (.int .i64), .row 65 .float, .k (.int .i64), .row 3 (.int .i64)]],[none,none,none]⟩]
noncomputable abbrev a6:List Alt:=[⟨[.row 65 .float, .ifc 222 (.ep 4)],[some (.ifc 66 (.box [.k (.list (.int .u8)), .k (.int .i64), .k (.int .i8)])),none,none]⟩,⟨[.row 65 .float, .ifc 222 (.ep 6)],[some (.ifc 66 (.box [.k (.list (.int .u8)), .k (.int .i64), .k (.int .i8)])),none,none]⟩,⟨[.row 65 .float, .ifc 222 (.ep 5)],[some (.ifc 66 (.box [.k (.list (.int .u8)), .k (.int .i64), .k (.int .i8)])),none,none]⟩,⟨[.row 65 .float, .ifc 186 (.k (.pair (.int .i64) (.pair (.int .i64) (.pair (.int .i64) .unit))))],[some (.ifc 66 (.box [.k (.list (.int .u8)), .k (.int .i64), .k (.int .i8)])),none,none]⟩,⟨[.row 65 .float, .nili],[some (.ifc 66 (.box [.k (.list (.int .u8)), .k (.int .i64), .k (.int .i8)])),none,none]⟩]
noncomputable abbrev a7:List Alt:=[⟨[.ifc 222 (.ep 4)],[some (.ifc 66 (.box [.k (.list (.int .u8)), .k (.int .i64), .k (.int .i8)])),none,some (.row 65 .float)]⟩,⟨[.ifc 222 (.ep 6)],[some (.ifc 66 (.box [.k (.list (.int .u8)), .k (.int .i64), .k (.int .i8)])),none,some (.row 65 .float)]⟩,⟨[.ifc 222 (.ep 5)],[some (.ifc 66 (.box [.k (.list (.int .u8)), .k (.int .i64), .k (.int .i8)])),none,some (.row 65 .float)]⟩,⟨[.nili],[some (.ifc 66 (.box [.k (.list (.int .u8)), .k (.int .i64), .k (.int .i8)])),none,some (.row 65 .float)]⟩]
noncomputable abbrev a8:List Alt:=[⟨[.nili],[some (.ifc 66 (.box [.row 5 (.int .u8), .k (.int .i64), .k (.int .i8)])),none,none]⟩]
noncomputable abbrev a9:List Alt:=[⟨[.ifc 218 (.k (.pair (.int .i64) (.pair (.int .i64) .unit)))],[some (.box [.k (.int .i64), .row 50 .any, .k (.int .i64)]),some (.row 50 .any)]⟩,⟨[.nili],[some (.box [.k (.int .i64), .row 50 .any, .k (.int .i64)]),some (.row 50 .any)]⟩]
noncomputable abbrev a10:List Alt:=[⟨[.ifc 218 (.k (.pair (.int .i64) (.pair (.int .i64) .unit)))],[some (.box [.k (.int .i64), .k (.int .i64), .row 65 .float, .k (.int .i64), .row 23 (.list (.int .i64))]),none]⟩,⟨[.nili],[some (.box [.k (.int .i64), .k (.int .i64), .row 65 .float, .k (.int .i64), .row 23 (.list (.int .i64))]),none]⟩]
noncomputable abbrev a11:List Alt:=[⟨[.k .any, .ifc 222 (.ep 5)],[none,some (.bsl [.fn 109 [.box [.k (.int .u8)]]])]⟩,⟨[.k .any, .ifc 175 (.k (.int .u8))],[none,some (.bsl [.fn 109 [.box [.k (.int .u8)]]])]⟩,⟨[.k .any, .ifc 222 (.ep 4)],[none,some (.bsl [.fn 109 [.box [.k (.int .u8)]]])]⟩,⟨[.k .any, .ifc 222 (.ep 6)],[none,some (.bsl [.fn 109 [.box [.k (.int .u8)]]])]⟩,⟨[.k .any, .ifc 179 (.k (.int .u32))],[none,some (.bsl [.fn 109 [.box [.k (.int .u8)]]])]⟩,⟨[.k .any, .nili],[none,some (.bsl [.fn 109 [.box [.k (.int .u8)]]])]⟩,⟨[.k .any, .ifc 186 (.k (.pair (.int .i64) (.pair (.int .i64) (.pair (.int .i64) .unit))))],[none,some (.bsl [.fn 109 [.box [.k (.int .u8)]]])]⟩,⟨[.k .any, .ifc 218 (.k (.pair (.int .i64) (.pair (.int .i64) .unit)))],[none,some (.bsl [.fn 109 [.box [.k (.int .u8)]]])]⟩,⟨[.k .any, .ifc 198 (.k (.int .u32))],[none,some (.bsl [.fn 109 [.box [.k (.int .u8)]]])]⟩]
noncomputable abbrev a12:List Alt:=[⟨[.ifc 218 (.k (.pair (.int .i64) (.pair (.int .i64) .unit)))],[some (.box [.k (.int .i64), .k (.int .i64), .row 65 .float, .k (.int .i64), .row 3 (.int .i64)]),none]⟩,⟨[.nili],[some (.box [.k (.int .i64), .k (.int .i64), .row 65 .float, .k (.int .i64), .row 3 (.int .i64)]),none]⟩]
noncomputable abbrev a13:List Alt:=[⟨[.box [.k (.int .i64), .k (.int .i64), .k (.list .float), .k (.int .i64)]],[none,none]⟩]
noncomputable abbrev a14:List Alt:=[⟨[.agg [.k (.int .i64), .k (.int .i64), .k (.int .i64), .row 65 .float, .row 3 (.int .i64), .row 23 (.list (.int .i64)), .row 27 .geo], .k .bool],[none,none]⟩]
noncomputable abbrev a15:List Alt:=[⟨[.box [.k (.int .i64), .k (.int .i64), .row 65 .float, .k (.int .i64)]],[none,some (.row 65 .float)]⟩,⟨[.box [.k (.int .i64), .k (.int .i64), .row 65 .float, .k (.int .i64)]],[none,none]⟩]
noncomputable abbrev a16:List Alt:=[⟨[.par 0],[some (.box [.k (.int .i64), .k (.int .i64), .row 65 .float, .k (.int .i64), .row 3 (.int .i64)]),none]⟩]
noncomputable abbrev a17:List Alt:=[⟨[.k (.int .i64), .ifc 222 (.ep 4)],[some (.ifc 66 (.box [.k (.list (.int .u8)), .k (.int .i64), .k (.int .i8)])),some (.row 207 (.int .u8))]⟩,⟨[.k (.int .i64), .nili],[some (.ifc 66 (.box [.k (.list (.int .u8)), .k (.int .i64), .k (.int .i8)])),some (.row 207 (.int .u8))]⟩,⟨[.k (.int .i64), .ifc 222 (.ep 6)],[some (.ifc 66 (.box [.k (.list (.int .u8)), .k (.int .i64), .k (.int .i8)])),some (.row 207 (.int .u8))]⟩,⟨[.k (.int .i64), .ifc 222 (.ep 5)],[some (.ifc 66 (.box [.k (.list (.int .u8)), .k (.int .i64), .k (.int .i8)])),some (.row 207 (.int .u8))]⟩]
noncomputable abbrev a18:List Alt:=[⟨[.k (.int .i64), .ifc 222 (.ep 4)],[some (.ifc 66 (.box [.k (.list (.int .u8)), .k (.int .i64), .k (.int .i8)])),some (.row 5 (.int .u8))]⟩,⟨[.k (.int .i64), .nili],[some (.ifc 66 (.box [.k (.list (.int .u8)), .k (.int .i64), .k (.int .i8)])),some (.row 5 (.int .u8))]⟩,⟨[.k (.int .i64), .ifc 222 (.ep 6)],[some (.ifc 66 (.box [.k (.list (.int .u8)), .k (.int .i64), .k (.int .i8)])),some (.row 5 (.int .u8))]⟩,⟨[.k (.int .i64), .ifc 222 (.ep 5)],[some (.ifc 66 (.box [.k (.list (.int .u8)), .k (.int .i64), .k (.int .i8)])),some (.row 5 (.int .u8))]⟩]
noncomputable abbrev a19:List Alt:=[⟨[.box [.k (.int .i64), .k (.int .i64), .k (.list .float), .k (.int .i64), .row 3 (.int .i64)]],[none,none]⟩]
noncomputable abbrev a20:List Alt:=[⟨[.k (.int .i64), .nili],[some (.box [.k (.list (.int .u8)), .k (.int .i64), .k (.int .i8)]),some (.row 204 (.int .u8))]⟩,⟨[.k (.int .i64), .ifc 222 (.ep 5)],[some (.box [.k (.list (.int .u8)), .k (.int .i64), .k (.int .i8)]),some (.row 204 (.int .u8))]⟩]
noncomputable abbrev a21:List Alt:=[⟨[.k (.int .i64), .nili],[some (.box [.k (.list (.int .u8)), .k (.int .i64), .k (.int .i8)]),some (.sub 207 (.int .u8))]⟩,⟨[.k (.int .i64), .ifc 222 (.ep 5)],[some (.box [.k (.list (.int .u8)), .k (.int .i64), .k (.int .i8)]),some (.sub 207 (.int .u8))]⟩]
noncomputable abbrev a22:List Alt:=[⟨[.agg [.k (.int .i64), .k (.int .i64), .k (.int .i64), .k (.list .float), .k (.list (.int .i64)), .k (.list (.list (.int .i64))), .k (.list .geo)], .k .bool],[none,none]⟩]
noncomputable abbrev a23:List Alt:=[⟨[.k (.int .i64), .nili],[some (.box [.k (.list (.int .u8)), .k (.int .i64), .k (.int .i8)]),some (.sub 5 (.int .u8))]⟩,⟨[.k (.int .i64), .ifc 222 (.ep 5)],[some (.box [.k (.list (.int .u8)), .k (.int .i64), .k (.int .i8)]),some (.sub 5 (.int .u8))]⟩]
noncomputable abbrev a24:List Alt:=[⟨[.row 65 .float, .ifc 222 (.ep 4)],[some (.ifc 66 (.box [.k (.list (.int .u8)), .k (.int .i64), .k (.int .i8)])),none,none]⟩,⟨[.row 65 .float, .ifc 222 (.ep 6)],[some (.ifc 66 (.box [.k (.list (.int .u8)), .k (.int .i64), .k (.int .i8)])),none,none]⟩,⟨[.row 65 .float, .ifc 222 (.ep 5)],[some (.ifc 66 (.box [.k (.list (.int .u8)), .k (.int .i64), .k (.int .i8)])),none,none]⟩,⟨[.row 65 .float, .nili],[some (.ifc 66 (.box [.k (.list (.int .u8)), .k (.int .i64), .k (.int .i8)])),none,none]⟩]
noncomputable abbrev a25:List Alt:=[⟨[.box [.k (.int .i64), .k (.int .i64), .row 65 .float, .k (.int .i64), .row 3 (.int .i64)]],[none]⟩]
noncomputable abbrev a26:List Alt:=[⟨[.k (.int .u32), .ifc 222 (.ep 4)],[some (.ifc 66 (.box [.k (.list (.int .u8)), .k (.int .i64), .k (.int .i8)])),none]⟩,⟨[.k (.int .u32), .ifc 222 (.ep 6)],[some (.ifc 66 (.box [.k (.list (.int .u8)), .k (.int .i64), .k (.int .i8)])),none]⟩,⟨[.k (.int .u32), .ifc 222 (.ep 5)],[some (.ifc 66 (.box [.k (.list (.int .u8)), .k (.int .i64), .k (.int .i8)])),none]⟩,⟨[.k (.int .u32), .nili],[some (.ifc 66 (.box [.k (.list (.int .u8)), .k (.int .i64), .k (.int .i8)])),none]⟩]
noncomputable abbrev a27:List Alt:=[⟨[.par 0],[some (.box [.k (.int .i64), .k (.int .i64), .row 65 .float, .k (.int .i64)]),none]⟩]
noncomputable abbrev a28:List Alt:=[⟨[.nili],[some (.ifc 66 (.box [.row 5 (.int .u8), .k (.int .i64), .k (.int .i8)])),none,some (.row 65 .float)]⟩]
noncomputable abbrev a29:List Alt:=[⟨[.box [.k (.int .i64), .k (.int .i64), .row 65 .float, .k (.int .i64)]],[none,none]⟩]
noncomputable abbrev a30:List Alt:=[⟨[.ifc 218 (.k (.pair (.int .i64) (.pair (.int .i64) .unit)))],[none,none]⟩,⟨[.nili],[none,none]⟩]
noncomputable abbrev a31:List Alt:=[⟨[.row 5 (.int .u8), .ifc 127 (.k .unit)],[none,none,some (.bsl [.fn 109 [.box [.k (.int .u8)]]])]⟩,⟨[.row 5 (.int .u8), .ifc 134 (.k (.int .i64))],[none,none,some (.bsl [.fn 109 [.box [.k (.int .u8)]]])]⟩,⟨[.row 5 (.int .u8), .ifc 222 (.box [.k .str])],[none,none,some (.bsl [.fn 109 [.box [.k (.int .u8)]]])]⟩,⟨[.k (.list (.int .u8)), .nili],[none,none,some (.bsl [.fn 109 [.box [.k (.int .u8)]]])]⟩]
noncomputable abbrev a32:List Alt:=[⟨[.k (.int .i64)],[none]⟩]
noncomputable abbrev a33:List Alt:=[⟨[.box [.k (.int .i64), .k (.int .i64), .row 65 .float, .k (.int .i64)]],[none]⟩]
noncomputable abbrev a34:List Alt:=[⟨[.par 0],[some (.box [.k (.int .i64), .row 50 .any, .k (.int .i64)]),none]⟩]
noncomputable abbrev a35:List Alt:=[⟨[.k (.int .u8), .ifc 222 (.ep 5)],[some (.ifc 66 (.box [.k (.list (.int .u8)), .k (.int .i64), .k (.int .i8)]))]⟩,⟨[.k (.int .u8), .nili],[some (.ifc 66 (.box [.k (.list (.int .u8)), .k (.int .i64), .k (.int .i8)]))]⟩]
noncomputable abbrev a36:List Alt:=[⟨[.nili],[some (.ifc 66 (.box [.row 5 (.int .u8), .k (.int .i64), .k (.int .i8)])),none,none,none,none]⟩]
noncomputable abbrev a37:List Alt:=[⟨[.ifc 218 (.k (.pair (.int .i64) (.pair (.int .i64) .unit)))],[some (.box [.k (.int .i64), .row 50 .any, .k (.int .i64)]),none]⟩,⟨[.nili],[some (.box [.k (.int .i64), .row 50 .any, .k (.int .i64)]),none]⟩]
noncomputable abbrev a38:List Alt:=[⟨[.k (.pair (.int .u8) .unit)],[none,some (.bsl [.fn 109 [.box [.k (.int .u8)]]])]⟩]
noncomputable abbrev a39:List Alt:=[⟨[.k .bool],[none]⟩]
noncomputable abbrev a40:List Alt:=[⟨[],[some (.box [.k (.int .i64), .k (.int .i64), .krow 1 65 .float, .k (.int .i64), .parw 4 (.int .i64)]),some (.box [.krow 4 3 (.int .i64)])]⟩]
noncomputable abbrev a41:List Alt:=[⟨[],[none,some (.row 207 (.int .u8)),none]⟩]
noncomputable abbrev a42:List Alt:=[⟨[],[none,some (.sub 5 (.int .u8)),none]⟩]
noncomputable abbrev a43:List Alt:=[⟨[.k (.list (.list (.int .i64)))],[none]⟩]
noncomputable abbrev a44:List Alt:=[⟨[.par 0],[some (.box [.k (.int .i64), .k (.int .i64), .row 65 .float, .k (.int .i64), .row 23 (.list (.int .i64))]),none]⟩]
noncomputable abbrev a45:List Alt:=[⟨[.box [.k (.int .i64), .k (.int .i64), .row 65 .float, .k (.int .i64), .row 23 (.list (.int .i64))]],[none,none,none]⟩]
noncomputable abbrev a46:List Alt:=[⟨[.box [.k (.int .i64), .k (.int .i64), .k (.list .float), .k (.int .i64), .row 3 (.int .i64)]],[none,none,none]⟩]
noncomputable abbrev a47:List Alt:=[⟨[.box [.k (.int .i64), .k (.int .i64), .row 65 .float, .k (.int .i64), .row 23 (.list (.int .i64))]],[none]⟩]
noncomputable abbrev a48:List Alt:=[⟨[.k (.list (.int .i64))],[none]⟩]
noncomputable abbrev a49:List Alt:=[⟨[.nili],[some (.ifc 66 (.box [.row 5 (.int .u8), .k (.int .i64), .k (.int .i8)])),none,none,none]⟩]
noncomputable abbrev s0:List Sh:=[.k (.list (.int .u8)), .k (.int .i64), .k (.int .i8)]
noncomputable abbrev s1:List Sh:=[.row 5 (.int .u8), .k (.int .i64), .k (.int .i8)]
noncomputable abbrev s2:List Sh:=[.box [.k (.int .i64), .k (.int .i64), .row 65 .float, .k (.int .i64), .row 3 (.int .i64)], .k (.int .i64)]
noncomputable abbrev s3:List Sh:=[.box [.k (.int .i64), .k (.int .i64), .row 65 .float, .k (.int .i64)], .k (.int .i64)]
noncomputable abbrev s4:List Sh:=[.fn 109 [.box [.k (.int .u8)]]]
noncomputable abbrev s5:List Sh:=[.box [.k (.int .i64), .row 50 .any, .k (.int .i64)], .k (.int .i64)]
noncomputable abbrev s6:List Sh:=[.box [.k (.int .i64), .k (.int .i64), .row 65 .float, .k (.int .i64), .row 3 (.int .i64)], .k .any]
noncomputable abbrev s7:List Sh:=[.ifc 66 (.box s0), .k .any, .k (.int .i64)]
noncomputable abbrev s8:List Sh:=[.k (.int .i64), .row 65 .float]
noncomputable abbrev s9:List Sh:=[.box [.k (.int .i64), .row 50 .any, .k (.int .i64)], .row 50 .any]
noncomputable abbrev s10:List Sh:=[.k (.int .i64), .row 65 .float, .row 3 (.int .i64)]
noncomputable abbrev s11:List Sh:=[.k (.int .i64)]
noncomputable abbrev s12:List Sh:=[.k .unit, .row 207 (.int .u8), .k (.int .u32)]
noncomputable abbrev s13:List Sh:=[.ifc 66 (.box s1), .k .any, .k (.list .float)]
noncomputable abbrev s14:List Sh:=[.k .unit, .sub 5 (.int .u8), .k (.int .u64)]
noncomputable abbrev s15:List Sh:=[.ifc 66 (.box s1), .k .any, .row 65 .float]
noncomputable abbrev s16:List Sh:=[.box [.k (.int .i64), .k (.int .i64), .row 65 .float, .k (.int .i64), .row 3 (.int .i64)], .box [.row 3 (.int .i64)]]
noncomputable abbrev s17:List Sh:=[.box [.k (.int .i64), .k (.int .i64), .row 65 .float, .k (.int .i64), .row 23 (.list (.int .i64))], .k (.int .i64)]
noncomputable abbrev s18:List Sh:=[.k .any, .k (.int .i64)]
noncomputable abbrev s19:List Sh:=[.box [.k (.int .i64), .k (.int .i64), .row 65 .float, .k (.int .i64), .row 23 (.list (.int .i64))], .k .any]
noncomputable abbrev s20:List Sh:=[.fn 89 [.box [.row 3 (.int .i64)]]]
noncomputable abbrev p0:Kd:=(.pair (.pair (.int .i64) (.pair (.int .i64) (.pair (.list .float) (.pair (.int .i64) .unit)))) .unit)
noncomputable abbrev p1:Kd:=(.pair (.pair p0 (.pair (.list (.int .i64)) .unit)) .unit)
noncomputable abbrev p2:Kd:=(.pair (.int .i64) (.pair (.list .any) (.pair (.int .i64) .unit)))
noncomputable abbrev p3:Kd:=(.pair (.pair p0 (.pair (.list (.list (.int .i64))) .unit)) .unit)
noncomputable abbrev p4:Kd:=(.pair (.int .i64) (.pair (.int .i64) (.pair (.list .float) (.pair (.int .i64) .unit))))
noncomputable abbrev p5:Kd:=(.pair (.int .i64) (.pair (.int .i64) .unit))
noncomputable abbrev p6:Kd:=(.pair (.int .u8) .unit)
noncomputable abbrev i7{A0 A1 A2 A3 A4 A5 A6 A7 A8:Type}(x:A7):A0⊕A1⊕A2⊕A3⊕A4⊕A5⊕A6⊕(A7⊕A8):=Sum.inr (Sum.inr (Sum.inr (Sum.inr (Sum.inr (Sum.inr (Sum.inr (Sum.inl x)))))))
noncomputable abbrev i6{A0 A1 A2 A3 A4 A5 A6 A7:Type}(x:A6):A0⊕A1⊕A2⊕A3⊕A4⊕A5⊕(A6⊕A7):=Sum.inr (Sum.inr (Sum.inr (Sum.inr (Sum.inr (Sum.inr (Sum.inl x))))))
noncomputable abbrev i5{A0 A1 A2 A3 A4 A5 A6:Type}(x:A5):A0⊕A1⊕A2⊕A3⊕A4⊕(A5⊕A6):=Sum.inr (Sum.inr (Sum.inr (Sum.inr (Sum.inr (Sum.inl x)))))
noncomputable abbrev i4{A0 A1 A2 A3 A4 A5:Type}(x:A4):A0⊕A1⊕A2⊕A3⊕(A4⊕A5):=Sum.inr (Sum.inr (Sum.inr (Sum.inr (Sum.inl x))))
noncomputable abbrev i3{A0 A1 A2 A3 A4:Type}(x:A3):A0⊕A1⊕A2⊕(A3⊕A4):=Sum.inr (Sum.inr (Sum.inr (Sum.inl x)))
noncomputable abbrev i2{A0 A1 A2 A3:Type}(x:A2):A0⊕A1⊕(A2⊕A3):=Sum.inr (Sum.inr (Sum.inl x))
noncomputable abbrev kd0:List (TypeId×Kd):=[(72, .any),(75, .any),(78, .any),(81, .any),(85, .any),(91, .any),(94, .any),(98, .any),(104, .unit),(105, .unit),(140,p0),(147,(.pair p0 .unit)),(152,p1),(155,(.pair p0 .unit)),(157,p1),(158,p1),(162,p3),(165,p2)]
noncomputable abbrev kd1:List (TypeId×Kd):=[(5,(.int .u8)),(72, .any),(75, .any),(78, .any),(81, .any),(85, .any),(91, .any),(94, .any),(98, .any),(104, .unit),(105, .unit)]
noncomputable abbrev kd2:List (TypeId×Kd):=[(72, .any),(75, .any),(78, .any),(81, .any),(85, .any),(91, .any),(94, .any),(98, .any),(104, .unit),(105, .unit)]
noncomputable abbrev tl0:List Nat:=[104,105,72,75,78,81,85,91,94,98]
noncomputable abbrev PG:=Tryz.prog
noncomputable def GL(N:Nat):List Gl:=[⟨0, .unit,(),none⟩,⟨1, .unit,(),none⟩,⟨2,(.pair (.int .i64) (.pair (.int .i64) p5)),(0,(-1,(-1,(-1,())))),none⟩,⟨4, .unit,(),some 222⟩,⟨5, .unit,(),some 222⟩,⟨6, .unit,(),some 222⟩]
noncomputable def F0_E(N:Nat):Env:=⟨PG,N,[],[nm 0 [0] [],nm 1 [0] [],nm 2 [0,7] [],nm 3 [0] [],nm 4 [8,9,10] [],nm 5 [8,9,10] [],nm 6 [4,8,9,10] [],nm 7 [8,9,10,16] [],nm 8 [8,9,10] [],nm 9 [] []],kdL [],[],[],(GL N),tl0,[]⟩
noncomputable def F0_g0(N:Nat)(v1:T22)(r0:Int→Option (Bool))(v3:Int):Option (Bool):=
 (bif(decide ((v3:Int)<(v1.length:Int)))then((nth v1 v3).bind fun v4=>(bif(decide (((v4.length:Int):Int)>2147483647))then(some false)else((r0 (IntKind.i64.wrap (v3+1))))))else(some true))
noncomputable def F0_l0(N:Nat):Nat→T22→Int→Option (Bool)
 |0,_,_=>none
 |n+1,v1,v3=>F0_g0 N v1 (F0_l0 N n v1) v3
noncomputable def F0_g(N:Nat)(v1:T22)(c0:T22→Int→Option (Bool)):Option (Bool):=
 (bif(decide (((v1.length:Int):Int)>2147483647))then(some false)else((c0 v1 0)))
noncomputable def F0(N:Nat)(v1:T22):Option (Bool):=
 F0_g N v1 (F0_l0 N N)
noncomputable def F0_e0(N n:Nat)(v1:T22)(v3:Int):=
 lq (F0_E N) (c13 [1,1,0,1,0,0]) n ⟨[(8, .pv (.list (.list (.int .i64))) v1),(9, .pv (.int .i64) (v1.length:Int)),(10, .pv (.int .i64) v3)],[],[]⟩ (kBlock 0 (kq (F0_E N) (c13 [1,1,1]) (kEnd (F0_E N) [] Tryz.f13.results.toList [.bool])))
theorem F0_t0(N:Nat):∀(n:Nat) (v1:T22) (v3:Int),F0_e0 N n v1 v3=F0_l0 N n v1 v3
 |0,_,_=>rfl
 |n+1,v1,v3=>by
  have h:F0_e0 N n v1=F0_l0 N n v1:=by funext v3;exact F0_t0 N n v1 v3
  exact Eq.trans (b:=F0_g0 N v1 (F0_e0 N n v1) v3) (by kernel_rfl) (by rw[h];rfl)
theorem F0_t(N:Nat)(v1:T22):evF (F0_E N) [] Tryz.f13 [.k (.list (.list (.int .i64)))] [.bool] (v1,())=F0 N v1:=by
 have h0:(F0_e0 N N)=(F0_l0 N N):=by funext v1 v3;exact F0_t0 N N v1 v3
 exact Eq.trans (b:=F0_g N v1 (F0_e0 N N)) (by kernel_rfl) (by rw[h0];rfl)
noncomputable def F0_con(N:Nat):Con:=⟨13,[.k (.list (.list (.int .i64)))],[.bool],fun x=>F0 N x.1⟩
theorem F0_s(N:Nat):(F0_con N).Sound PG (GL N):=
 Con.sound_of (c:=F0_con N) (E:=(F0_E N)) (idle:=[]) Tryz.func13 (by kernel_rfl) (by kernel_rfl) ⟨allNil,allNil,rfl⟩ allNil (fun x y h=>(F0_t N x.1).trans h)
noncomputable def F1_E(N:Nat):Env:=⟨PG,N,[F0_con N],[nm 0 [0] [],nm 1 [1] [1],nm 2 [1,6] [1],nm 3 [1] [1],nm 4 [1,10] [1],nm 5 [1] [1],nm 6 [1,14] [1],nm 7 [1] [1],nm 8 [18] [],nm 9 [] []],kdL [],[],[],(GL N),tl0,[]⟩
noncomputable def F1_g(N:Nat)(v1:Geo):Option (Bool):=
 (bif(decide (((v1.flat.length:Int):Int)>2147483647))then(some false)else(bif(decide (((v1.ends.length:Int):Int)>2147483647))then(some false)else((F0 N v1.endss).bind fun v2=>(bif(!v2)then(some false)else(bif(decide (((v1.kids.length:Int):Int)>2147483647))then(some false)else(some true))))))
noncomputable def F1(N:Nat)(v1:Geo):Option (Bool):=
 F1_g N v1
theorem F1_t(N:Nat)(v1:Geo):evF (F1_E N) [] Tryz.f5 [.k .geo] [.bool] (v1,())=F1 N v1:=
 Eq.trans (b:=F1_g N v1) (by kernel_rfl) rfl
noncomputable def F1_con(N:Nat):Con:=⟨5,[.k .geo],[.bool],fun x=>F1 N x.1⟩
theorem F1_s(N:Nat):(F1_con N).Sound PG (GL N):=
 Con.sound_of (c:=F1_con N) (E:=(F1_E N)) (idle:=[]) Tryz.func5 (by kernel_rfl) (by kernel_rfl) ⟨(allCons (F0_s N) allNil),allNil,rfl⟩ allNil (fun x y h=>(F1_t N x.1).trans h)
noncomputable def F2_g1(N:Nat)(self:Geo→Int→Option (Int))(v2:Int)(v1:Geo)(r1:Int→Int→Option (Int))(v9 v10:Int):Option (Int):=
 (bif(decide ((v10:Int)<(v1.kids.length:Int)))then((nth v1.kids v10).bind fun v11=>(bif(decide ((v9:Int)>v2))then(some v9)else((self (Geo.mk v11.kind v11.layout v11.srid v11.flat v11.ends v11.endss v11.kids) (IntKind.i64.wrap (v2-v9))).bind fun v12=>((r1 (IntKind.i64.wrap (v9+v12)) (IntKind.i64.wrap (v10+1)))))))else(some v9))
noncomputable def F2_l1(N:Nat)(self:Geo→Int→Option (Int)):Nat→Int→Geo→Int→Int→Option (Int)
 |0,_,_,_,_=>none
 |n+1,v2,v1,v9,v10=>F2_g1 N self v2 v1 (F2_l1 N self n v2 v1) v9 v10
noncomputable def F2_g0(N:Nat)(self:Geo→Int→Option (Int))(v2:Int)(v1:Geo)(c1:Int→Geo→Int→Int→Option (Int))(r0:Int→Int→Option (Int))(v4 v5:Int):Option (Int):=
 (bif(decide ((v5:Int)<(v1.endss.length:Int)))then((nth v1.endss v5).bind fun v6=>((r0 (IntKind.i64.wrap (v4+(IntKind.i64.wrap (1+(v6.length:Int))))) (IntKind.i64.wrap (v5+1)))))else((c1 v2 v1 v4 0)))
noncomputable def F2_l0(N:Nat)(self:Geo→Int→Option (Int)):Nat→Int→Geo→Int→Int→Option (Int)
 |0,_,_,_,_=>none
 |n+1,v2,v1,v4,v5=>F2_g0 N self v2 v1 (F2_l1 N self N) (F2_l0 N self n v2 v1) v4 v5
noncomputable def F2_g(N:Nat)(self:Geo→Int→Option (Int))(v1:Geo)(v2:Int)(c0:Int→Geo→Int→Int→Option (Int)):Option (Int):=
 ((c0 v2 v1 (IntKind.i64.wrap ((IntKind.i64.wrap (1+(v1.flat.length:Int)))+(v1.ends.length:Int))) 0))
noncomputable def F2(N:Nat):Nat→Geo→Int→Option (Int)
 |0,_,_=>none
 |d+1,v1,v2=>F2_g N (F2 N d) v1 v2 (F2_l0 N (F2 N d) N)
noncomputable def F2_con'(N d:Nat):Con:=⟨66,[.k .geo, .k (.int .i64)],[(.int .i64)],fun x=>F2 N d x.1 x.2.1⟩
noncomputable def F2_E(N d:Nat):Env:=⟨PG,N,[F2_con' N d],[nm 0 [0,1] [],nm 1 [1,2] [2],nm 2 [1,2,5] [2],nm 3 [1,2,5,19,20,21] [2],nm 4 [1,2,5,19,20,21] [2],nm 5 [1,2,5,7,19,20,21] [2],nm 6 [1,2,5,19,20,21] [2],nm 7 [1,2,5] [2],nm 8 [1,5,32,33,34] [],nm 9 [1,5,32,33,34] [],nm 10 [1,5,9,32,33,34] [9],nm 11 [1,5,9,32,33,34,40] [9],nm 12 [1,5,9,32,33,34] [9],nm 13 [1,5,32,33,34] [],nm 14 [5] []],kdL [],[],[],(GL N),tl0,[]⟩
noncomputable def F2_e1(N d n:Nat)(v2:Int)(v1:Geo)(v9 v10:Int):=
 lq (F2_E N d) (c66 [1,1,1,0,1,0,0]) n ⟨[(1, .pv (.int .i64) v2),(5, .pv (.int .i64) v9),(32, .pv (.list .geo) v1.kids),(33, .pv (.int .i64) (v1.kids.length:Int)),(34, .pv (.int .i64) v10)],[],[]⟩ (kBlock 2 (kq (F2_E N d) (c66 [1,1,1,1]) (kEnd (F2_E N d) [] Tryz.f66.results.toList [(.int .i64)])))
noncomputable def F2_e0(N d n:Nat)(v2:Int)(v1:Geo)(v4 v5:Int):=
 lq (F2_E N d) (c66 [1,1,0,1,0,0]) n ⟨[(1, .pv (.int .i64) v2),(2, .ref 2 0),(5, .pv (.int .i64) v4),(19, .pv (.list (.list (.int .i64))) v1.endss),(20, .pv (.int .i64) (v1.endss.length:Int)),(21, .pv (.int .i64) v5)],[(2, .box [.pv (.int .i64) v1.kind, .pv (.int .i64) v1.layout, .pv (.int .i64) v1.srid, .pv (.list .float) v1.flat, .pv (.list (.int .i64)) v1.ends, .pv (.list (.list (.int .i64))) v1.endss, .pv (.list .geo) v1.kids])],[]⟩ (kBlock 0 (kq (F2_E N d) (c66 [1,1,1]) (kEnd (F2_E N d) [] Tryz.f66.results.toList [(.int .i64)])))
theorem F2_t1(N d:Nat):∀(n:Nat) (v2:Int) (v1:Geo) (v9 v10:Int),F2_e1 N d n v2 v1 v9 v10=F2_l1 N (F2 N d) n v2 v1 v9 v10
 |0,_,_,_,_=>rfl
 |n+1,v2,v1,v9,v10=>by
  have h:F2_e1 N d n v2 v1=F2_l1 N (F2 N d) n v2 v1:=by funext v9 v10;exact F2_t1 N d n v2 v1 v9 v10
  exact Eq.trans (b:=F2_g1 N (F2 N d) v2 v1 (F2_e1 N d n v2 v1) v9 v10) (by kernel_rfl) (by rw[h];rfl)
theorem F2_t0(N d:Nat):∀(n:Nat) (v2:Int) (v1:Geo) (v4 v5:Int),F2_e0 N d n v2 v1 v4 v5=F2_l0 N (F2 N d) n v2 v1 v4 v5
 |0,_,_,_,_=>rfl
 |n+1,v2,v1,v4,v5=>by
  have h1:(F2_e1 N d N)=(F2_l1 N (F2 N d) N):=by funext v2 v1 v9 v10;exact F2_t1 N d N v2 v1 v9 v10
  have h:F2_e0 N d n v2 v1=F2_l0 N (F2 N d) n v2 v1:=by funext v4 v5;exact F2_t0 N d n v2 v1 v4 v5
  exact Eq.trans (b:=F2_g0 N (F2 N d) v2 v1 (F2_e1 N d N) (F2_e0 N d n v2 v1) v4 v5) (by kernel_rfl) (by rw[h1,h];rfl)
theorem F2_t(N d:Nat)(v1:Geo)(v2:Int):evF (F2_E N d) [] Tryz.f66 [.k .geo, .k (.int .i64)] [(.int .i64)] (v1,v2,())=F2 N (d+1) v1 v2:=by
 have h0:(F2_e0 N d N)=(F2_l0 N (F2 N d) N):=by funext v2 v1 v4 v5;exact F2_t0 N d N v2 v1 v4 v5
 exact Eq.trans (b:=F2_g N (F2 N d) v1 v2 (F2_e0 N d N)) (by kernel_rfl) (by rw[h0];rfl)
theorem F2_s'(N:Nat):∀d,(F2_con' N d).Sound PG (GL N)
 |0=>fun _ _ _ _ _ _ _ _ h=>by cases h
 |d+1=>Con.sound_of (c:=F2_con' N (d+1)) (E:=(F2_E N d)) (idle:=[]) Tryz.func66 (by kernel_rfl) (by kernel_rfl) ⟨(allCons (F2_s' N d) allNil),allNil,rfl⟩ allNil (fun x y h=>(F2_t N d x.1 x.2.1).trans h)
noncomputable def F2_con(N:Nat):Con:=F2_con' N N
theorem F2_s(N:Nat):(F2_con N).Sound PG (GL N):=F2_s' N N
noncomputable def F3_g0(N:Nat)(self:Geo→Int→Option (Bool))(v2:Int)(v1:Geo)(r0:Int→Option (Bool))(v5:Int):Option (Bool):=
 (bif(decide ((v5:Int)<(v1.kids.length:Int)))then((nth v1.kids v5).bind fun v6=>((self (Geo.mk v6.kind v6.layout v6.srid v6.flat v6.ends v6.endss v6.kids) v2).bind fun v7=>(bif(!v7)then(some false)else((r0 (IntKind.i64.wrap (v5+1)))))))else(bif(decide ((v1.layout:Int)≤v2))then(bif(decide ((v1.layout:Int)≥1))then(some true)else(bif(v1.kind==7)then(some (decide ((v1.layout:Int)≥0)))else(some false)))else(some false)))
noncomputable def F3_l0(N:Nat)(self:Geo→Int→Option (Bool)):Nat→Int→Geo→Int→Option (Bool)
 |0,_,_,_=>none
 |n+1,v2,v1,v5=>F3_g0 N self v2 v1 (F3_l0 N self n v2 v1) v5
noncomputable def F3_g(N:Nat)(self:Geo→Int→Option (Bool))(v1:Geo)(v2:Int)(c0:Int→Geo→Int→Option (Bool)):Option (Bool):=
 ((c0 v2 v1 0))
noncomputable def F3(N:Nat):Nat→Geo→Int→Option (Bool)
 |0,_,_=>none
 |d+1,v1,v2=>F3_g N (F3 N d) v1 v2 (F3_l0 N (F3 N d) N)
noncomputable def F3_con'(N d:Nat):Con:=⟨15,[.k .geo, .k (.int .i64)],[.bool],fun x=>F3 N d x.1 x.2.1⟩
noncomputable def F3_E(N d:Nat):Env:=⟨PG,N,[F3_con' N d],[nm 0 [0,1] [],nm 1 [1,2] [2],nm 2 [1,2,8,9,10] [2],nm 3 [1,2,8,9,10] [2],nm 4 [1,2,6,8,9,10] [2,6],nm 5 [1,2,8,9,10,17] [2],nm 6 [1,2,8,9,10] [2],nm 7 [1,2] [2]],kdL [],[],[],(GL N),tl0,[]⟩
noncomputable def F3_e0(N d n:Nat)(v2:Int)(v1:Geo)(v5:Int):=
 lq (F3_E N d) (c15 [1,0,1,0,0]) n ⟨[(1, .pv (.int .i64) v2),(2, .ref 2 0),(8, .pv (.list .geo) v1.kids),(9, .pv (.int .i64) (v1.kids.length:Int)),(10, .pv (.int .i64) v5)],[(2, .box [.pv (.int .i64) v1.kind, .pv (.int .i64) v1.layout, .pv (.int .i64) v1.srid, .pv (.list .float) v1.flat, .pv (.list (.int .i64)) v1.ends, .pv (.list (.list (.int .i64))) v1.endss, .pv (.list .geo) v1.kids])],[]⟩ (kBlock 0 (kq (F3_E N d) (c15 [1,1]) (kEnd (F3_E N d) [] Tryz.f15.results.toList [.bool])))
theorem F3_t0(N d:Nat):∀(n:Nat) (v2:Int) (v1:Geo) (v5:Int),F3_e0 N d n v2 v1 v5=F3_l0 N (F3 N d) n v2 v1 v5
 |0,_,_,_=>rfl
 |n+1,v2,v1,v5=>by
  have h:F3_e0 N d n v2 v1=F3_l0 N (F3 N d) n v2 v1:=by funext v5;exact F3_t0 N d n v2 v1 v5
  exact Eq.trans (b:=F3_g0 N (F3 N d) v2 v1 (F3_e0 N d n v2 v1) v5) (by kernel_rfl) (by rw[h];rfl)
theorem F3_t(N d:Nat)(v1:Geo)(v2:Int):evF (F3_E N d) [] Tryz.f15 [.k .geo, .k (.int .i64)] [.bool] (v1,v2,())=F3 N (d+1) v1 v2:=by
 have h0:(F3_e0 N d N)=(F3_l0 N (F3 N d) N):=by funext v2 v1 v5;exact F3_t0 N d N v2 v1 v5
 exact Eq.trans (b:=F3_g N (F3 N d) v1 v2 (F3_e0 N d N)) (by kernel_rfl) (by rw[h0];rfl)
theorem F3_s'(N:Nat):∀d,(F3_con' N d).Sound PG (GL N)
 |0=>fun _ _ _ _ _ _ _ _ h=>by cases h
 |d+1=>Con.sound_of (c:=F3_con' N (d+1)) (E:=(F3_E N d)) (idle:=[]) Tryz.func15 (by kernel_rfl) (by kernel_rfl) ⟨(allCons (F3_s' N d) allNil),allNil,rfl⟩ allNil (fun x y h=>(F3_t N d x.1 x.2.1).trans h)
noncomputable def F3_con(N:Nat):Con:=F3_con' N N
theorem F3_s(N:Nat):(F3_con N).Sound PG (GL N):=F3_s' N N
noncomputable def F4_E(N:Nat):Env:=⟨PG,N,[F2_con N,F3_con N],[nm 0 [0] [],nm 1 [0] [],nm 2 [0,3] [],nm 3 [3,6,7,8] [],nm 4 [3,6,7,8] [],nm 5 [3,5,6,7,8] [5],nm 6 [3,5,6,7,8] [5],nm 7 [3,6,7,8,23] [],nm 8 [3,6,7,8] [],nm 9 [] []],kdL [],[],[],(GL N),tl0,[]⟩
noncomputable def F4_g0(N:Nat)(v1:List Geo)(r0:Int→Int→Option (Bool))(v5 v6:Int):Option (Bool):=
 (bif(decide ((v6:Int)<(v1.length:Int)))then((nth v1 v6).bind fun v7=>((F2 N N (Geo.mk v7.kind v7.layout v7.srid v7.flat v7.ends v7.endss v7.kids) v5).bind fun v8=>(bif(decide (((IntKind.i64.wrap (v5-v8)):Int)<0))then(some false)else((F3 N N (Geo.mk v7.kind v7.layout v7.srid v7.flat v7.ends v7.endss v7.kids) 9).bind fun v9=>(bif(!v9)then(some false)else((r0 (IntKind.i64.wrap (v5-v8)) (IntKind.i64.wrap (v6+1)))))))))else(some true))
noncomputable def F4_l0(N:Nat):Nat→(List Geo)→Int→Int→Option (Bool)
 |0,_,_,_=>none
 |n+1,v1,v5,v6=>F4_g0 N v1 (F4_l0 N n v1) v5 v6
noncomputable def F4_g(N:Nat)(v1:List Geo)(c0:(List Geo)→Int→Int→Option (Bool)):Option (Bool):=
 ((c0 v1 2000 0))
noncomputable def F4(N:Nat)(v1:List Geo):Option (Bool):=
 F4_g N v1 (F4_l0 N N)
noncomputable def F4_e0(N n:Nat)(v1:List Geo)(v5 v6:Int):=
 lq (F4_E N) (c33 [1,1,0,1,0,0]) n ⟨[(3, .pv (.int .i64) v5),(6, .pv (.list .geo) v1),(7, .pv (.int .i64) (v1.length:Int)),(8, .pv (.int .i64) v6)],[],[]⟩ (kBlock 0 (kq (F4_E N) (c33 [1,1,1]) (kEnd (F4_E N) [] Tryz.f33.results.toList [.bool])))
theorem F4_t0(N:Nat):∀(n:Nat) (v1:List Geo) (v5 v6:Int),F4_e0 N n v1 v5 v6=F4_l0 N n v1 v5 v6
 |0,_,_,_=>rfl
 |n+1,v1,v5,v6=>by
  have h:F4_e0 N n v1=F4_l0 N n v1:=by funext v5 v6;exact F4_t0 N n v1 v5 v6
  exact Eq.trans (b:=F4_g0 N v1 (F4_e0 N n v1) v5 v6) (by kernel_rfl) (by rw[h];rfl)
theorem F4_t(N:Nat)(v1:List Geo):evF (F4_E N) [] Tryz.f33 [.k (.list .geo)] [.bool] (v1,())=F4 N v1:=by
 have h0:(F4_e0 N N)=(F4_l0 N N):=by funext v1 v5 v6;exact F4_t0 N N v1 v5 v6
 exact Eq.trans (b:=F4_g N v1 (F4_e0 N N)) (by kernel_rfl) (by rw[h0];rfl)
noncomputable def F4_con(N:Nat):Con:=⟨33,[.k (.list .geo)],[.bool],fun x=>F4 N x.1⟩
theorem F4_s(N:Nat):(F4_con N).Sound PG (GL N):=
 Con.sound_of (c:=F4_con N) (E:=(F4_E N)) (idle:=[]) Tryz.func33 (by kernel_rfl) (by kernel_rfl) ⟨(allCons (F2_s N) (allCons (F3_s N) allNil)),allNil,rfl⟩ allNil (fun x y h=>(F4_t N x.1).trans h)
noncomputable def F5_E(N:Nat):Env:=⟨PG,N,[],[nm 0 [0] [],nm 1 [0] [],nm 2 [0,3] [],nm 4 [0,6] [],nm 6 [0,9] [],nm 7 [0] []],kdL [],[],[],(GL N),tl0,[]⟩
noncomputable def F5_g(N:Nat)(v1:Int):Option (Int):=
 (bif(decide ((v1:Int)<1))then(some 0)else(bif(v1==1)then(some 2)else(bif(v1==2)then(some 3)else(bif(v1==3)then(some 3)else(some v1)))))
noncomputable def F5(N:Nat)(v1:Int):Option (Int):=
 F5_g N v1
theorem F5_t(N:Nat)(v1:Int):evF (F5_E N) [] Tryz.f67 [.k (.int .i64)] [(.int .i64)] (v1,())=F5 N v1:=
 Eq.trans (b:=F5_g N v1) (by kernel_rfl) rfl
noncomputable def F5_con(N:Nat):Con:=⟨67,[.k (.int .i64)],[(.int .i64)],fun x=>F5 N x.1⟩
theorem F5_s(N:Nat):(F5_con N).Sound PG (GL N):=
 Con.sound_of (c:=F5_con N) (E:=(F5_E N)) (idle:=[]) Tryz.func67 (by kernel_rfl) (by kernel_rfl) ⟨allNil,allNil,rfl⟩ allNil (fun x y h=>(F5_t N x.1).trans h)
noncomputable def F6_E(N:Nat):Env:=⟨PG,N,[],[nm 0 [0,1] [],nm 1 [0,1] [],ng N 2 [0,1,18] [],ng N 3 [0,1] []],kdL [],[],[],(GL N),tl0,[]⟩
noncomputable def F6_g2(N:Nat)(v1 v2:Int):Option (Int):=
 (some (imm true v1 v2))
noncomputable def F6_j2(N:Nat)(v1 v2:Int):Option (Int):=
 gate N (F6_g2 N v1 v2)
noncomputable def F6_g0(N:Nat)(v1 v2:Int)(c2:Int→Int→Option (Int)):Option (Int):=
 bif(v2==2)then(some 4)else(c2 v1 v2)
noncomputable def F6_j0(N:Nat)(v1 v2:Int):Option (Int):=
 gate N (F6_g0 N v1 v2 (F6_j2 N))
noncomputable def F6_g1(N:Nat)(v1 v2:Int)(c2:Int→Int→Option (Int)):Option (Int):=
 (c2 v1 v2)
noncomputable def F6_j1(N:Nat)(v1 v2:Int):Option (Int):=
 gate N (F6_g1 N v1 v2 (F6_j2 N))
noncomputable def F6_g(N:Nat)(v1 v2:Int)(c0 c1:Int→Int→Option (Int)):Option (Int):=
 (bif(v1==2)then(bif(v2==3)then(gate N (some 4))else(bif(v1==3)then(c0 v1 v2)else(c1 v1 v2)))else(bif(v1==3)then(c0 v1 v2)else(c1 v1 v2)))
noncomputable def F6(N:Nat)(v1 v2:Int):Option (Int):=
 F6_g N v1 v2 (F6_j0 N) (F6_j1 N)
noncomputable def q0(N:Nat):=kEnd (F6_E N) [] Tryz.f110.results.toList [(.int .i64)]
noncomputable def F6_e2(N:Nat)(v1 v2:Int):=
 gate N (evC (F6_E N) (c110 [1,1]) ⟨[(0, .pv (.int .i64) v1),(1, .pv (.int .i64) v2)],[],[]⟩ (q0 N))
noncomputable def F6_e0(N:Nat)(v1 v2:Int):=
 gate N (evC (F6_E N) (c110 [1,0,1]) ⟨[(0, .pv (.int .i64) v1),(1, .pv (.int .i64) v2),(18, .pv .bool (v2==2))],[],[]⟩ (kq (F6_E N) (c110 [1,1]) (q0 N)))
noncomputable def F6_e1(N:Nat)(v1 v2:Int):=
 gate N (evC (F6_E N) (c110 [1,0,1]) ⟨[(0, .pv (.int .i64) v1),(1, .pv (.int .i64) v2),(18, .pv .bool false)],[],[]⟩ (kq (F6_E N) (c110 [1,1]) (q0 N)))
theorem F6_t2(N:Nat)(v1 v2:Int):F6_e2 N v1 v2=F6_j2 N v1 v2:=by
 exact(congrArg (gate N) (show _=F6_g2 N v1 v2 from by kernel_rfl)).trans (by rfl)
theorem F6_t0(N:Nat)(v1 v2:Int):F6_e0 N v1 v2=F6_j0 N v1 v2:=by
 have h2:(F6_e2 N)=(F6_j2 N):=by funext v1 v2;exact F6_t2 N v1 v2
 exact(congrArg (gate N) (show _=F6_g0 N v1 v2 (F6_e2 N)from by kernel_rfl)).trans (by rw[h2];rfl)
theorem F6_t1(N:Nat)(v1 v2:Int):F6_e1 N v1 v2=F6_j1 N v1 v2:=by
 have h2:(F6_e2 N)=(F6_j2 N):=by funext v1 v2;exact F6_t2 N v1 v2
 exact(congrArg (gate N) (show _=F6_g1 N v1 v2 (F6_e2 N)from by kernel_rfl)).trans (by rw[h2];rfl)
theorem F6_t(N:Nat)(v1 v2:Int):evF (F6_E N) [] Tryz.f110 [.k (.int .i64), .k (.int .i64)] [(.int .i64)] (v1,v2,())=F6 N v1 v2:=by
 have h0:(F6_e0 N)=(F6_j0 N):=by funext v1 v2;exact F6_t0 N v1 v2
 have h1:(F6_e1 N)=(F6_j1 N):=by funext v1 v2;exact F6_t1 N v1 v2
 exact Eq.trans (b:=F6_g N v1 v2 (F6_e0 N) (F6_e1 N)) (by kernel_rfl) (by rw[h0,h1];rfl)
noncomputable def F6_con(N:Nat):Con:=⟨110,[.k (.int .i64), .k (.int .i64)],[(.int .i64)],fun x=>F6 N x.1 x.2.1⟩
theorem F6_s(N:Nat):(F6_con N).Sound PG (GL N):=
 Con.sound_of (c:=F6_con N) (E:=(F6_E N)) (idle:=[]) Tryz.func110 (by kernel_rfl) (by kernel_rfl) ⟨allNil,allNil,rfl⟩ allNil (fun x y h=>(F6_t N x.1 x.2.1).trans h)
noncomputable def F7_g0(N:Nat)(self:Geo→Option (Int))(v1:Geo)(r0:Int→Int→Option (Int))(v5 v6:Int):Option (Int):=
 (bif(decide ((v6:Int)<(v1.kids.length:Int)))then((nth v1.kids v6).bind fun v7=>((self (Geo.mk v7.kind v7.layout v7.srid v7.flat v7.ends v7.endss v7.kids)).bind fun v8=>(F6 N v5 v8).bind fun v9=>((r0 v9 (IntKind.i64.wrap (v6+1))))))else(some v5))
noncomputable def F7_l0(N:Nat)(self:Geo→Option (Int)):Nat→Geo→Int→Int→Option (Int)
 |0,_,_,_=>none
 |n+1,v1,v5,v6=>F7_g0 N self v1 (F7_l0 N self n v1) v5 v6
noncomputable def F7_g(N:Nat)(self:Geo→Option (Int))(v1:Geo)(c0:Geo→Int→Int→Option (Int)):Option (Int):=
 (bif(v1.kind !=7)then(some v1.layout)else(bif(v1.layout !=0)then(some v1.layout)else((c0 v1 v1.layout 0))))
noncomputable def F7(N:Nat):Nat→Geo→Option (Int)
 |0,_=>none
 |d+1,v1=>F7_g N (F7 N d) v1 (F7_l0 N (F7 N d) N)
noncomputable def F7_con'(N d:Nat):Con:=⟨68,[.k .geo],[(.int .i64)],fun x=>F7 N d x.1⟩
noncomputable def F7_E(N d:Nat):Env:=⟨PG,N,[F7_con' N d,F6_con N],[nm 0 [0] [],nm 1 [1] [1],nm 2 [1,3] [1],nm 3 [1,3,14] [1],nm 4 [1,3] [1],nm 5 [3,17,18,19] [],nm 6 [3,17,18,19] [],nm 7 [3,5,17,18,19] [5],nm 8 [3,17,18,19] [],nm 9 [3] []],kdL [],[],[],(GL N),tl0,[]⟩
noncomputable def F7_e0(N d n:Nat)(v1:Geo)(v5 v6:Int):=
 lq (F7_E N d) (c68 [1,1,1,0,1,0,0]) n ⟨[(3, .pv (.int .i64) v5),(17, .pv (.list .geo) v1.kids),(18, .pv (.int .i64) (v1.kids.length:Int)),(19, .pv (.int .i64) v6)],[],[]⟩ (kBlock 0 (kq (F7_E N d) (c68 [1,1,1,1]) (kEnd (F7_E N d) [] Tryz.f68.results.toList [(.int .i64)])))
theorem F7_t0(N d:Nat):∀(n:Nat) (v1:Geo) (v5 v6:Int),F7_e0 N d n v1 v5 v6=F7_l0 N (F7 N d) n v1 v5 v6
 |0,_,_,_=>rfl
 |n+1,v1,v5,v6=>by
  have h:F7_e0 N d n v1=F7_l0 N (F7 N d) n v1:=by funext v5 v6;exact F7_t0 N d n v1 v5 v6
  exact Eq.trans (b:=F7_g0 N (F7 N d) v1 (F7_e0 N d n v1) v5 v6) (by kernel_rfl) (by rw[h];rfl)
theorem F7_t(N d:Nat)(v1:Geo):evF (F7_E N d) [] Tryz.f68 [.k .geo] [(.int .i64)] (v1,())=F7 N (d+1) v1:=by
 have h0:(F7_e0 N d N)=(F7_l0 N (F7 N d) N):=by funext v1 v5 v6;exact F7_t0 N d N v1 v5 v6
 exact Eq.trans (b:=F7_g N (F7 N d) v1 (F7_e0 N d N)) (by kernel_rfl) (by rw[h0];rfl)
theorem F7_s'(N:Nat):∀d,(F7_con' N d).Sound PG (GL N)
 |0=>fun _ _ _ _ _ _ _ _ h=>by cases h
 |d+1=>Con.sound_of (c:=F7_con' N (d+1)) (E:=(F7_E N d)) (idle:=[]) Tryz.func68 (by kernel_rfl) (by kernel_rfl) ⟨(allCons (F7_s' N d) (allCons (F6_s N) allNil)),allNil,rfl⟩ allNil (fun x y h=>(F7_t N d x.1).trans h)
noncomputable def F7_con(N:Nat):Con:=F7_con' N N
theorem F7_s(N:Nat):(F7_con N).Sound PG (GL N):=F7_s' N N
noncomputable def F8_E(N:Nat):Env:=⟨PG,N,[],[nm 0 [0,1,2,3] [],nm 1 [0,1,2,3] [],nm 2 [1,2,3,12,13,14] [],nm 3 [1,2,3,12,13,14] [],nm 4 [1,2,3,11,12,13,14] [],ng N 5 [1,2,3,11,12,13,14,38] [],ng N 6 [2,3,11,12,13,14] [],nm 7 [1,2,3,12,13,14] [],nm 8 [1] []],kdL [],[],[],(GL N),tl0,[]⟩
noncomputable def F8_g1(N:Nat)(v3:Int)(v4:Bool)(v1:List Int)(v6 v8 v7:Int)(r0:Int→Int→Option (Int×Bool)):Option (Int×Bool):=
 (some (v6,false))
noncomputable def F8_j1(N:Nat)(r0:Int→Int→Option (Int×Bool))(v3:Int)(v4:Bool)(v1:List Int)(v6 v8 v7:Int):Option (Int×Bool):=
 gate N (F8_g1 N v3 v4 v1 v6 v8 v7 r0)
noncomputable def F8_g2(N:Nat)(v3:Int)(v4:Bool)(v1:List Int)(v8 v7:Int)(r0:Int→Int→Option (Int×Bool)):Option (Int×Bool):=
 ((r0 v8 (IntKind.i64.wrap (v7+1))))
noncomputable def F8_j2(N:Nat)(r0:Int→Int→Option (Int×Bool))(v3:Int)(v4:Bool)(v1:List Int)(v8 v7:Int):Option (Int×Bool):=
 gate N (F8_g2 N v3 v4 v1 v8 v7 r0)
noncomputable def F8_g0(N:Nat)(v3:Int)(v4:Bool)(v1:List Int)(c1:Int→Int→Int→Option (Int×Bool))(c2 r0:Int→Int→Option (Int×Bool))(v6 v7:Int):Option (Int×Bool):=
 (bif(decide ((v7:Int)<(v1.length:Int)))then((nth v1 v7).bind fun v8=>(bif(decide ((v8:Int)<v6))then(c1 v6 v8 v7)else(if v3=0 then none else bif((Int.tmod (IntKind.i64.wrap (v8-v6)) v3) !=0)then(c1 v6 v8 v7)else(bif v4 then(gate N (bif(decide (((IntKind.i64.wrap (v8-v6)):Int)>v3))then(some (v6,false))else(c2 v8 v7)))else(gate N (c2 v8 v7))))))else(some (v6,true)))
noncomputable def F8_l0(N:Nat):Nat→Int→Bool→(List Int)→Int→Int→Option (Int×Bool)
 |0,_,_,_,_,_=>none
 |n+1,v3,v4,v1,v6,v7=>F8_g0 N v3 v4 v1 (F8_j1 N (F8_l0 N n v3 v4 v1) v3 v4 v1) (F8_j2 N (F8_l0 N n v3 v4 v1) v3 v4 v1) (F8_l0 N n v3 v4 v1) v6 v7
noncomputable def F8_g(N:Nat)(v1:List Int)(v2 v3:Int)(v4:Bool)(c0:Int→Bool→(List Int)→Int→Int→Option (Int×Bool)):Option (Int×Bool):=
 ((c0 v3 v4 v1 v2 0))
noncomputable def F8(N:Nat)(v1:List Int)(v2 v3:Int)(v4:Bool):Option (Int×Bool):=
 F8_g N v1 v2 v3 v4 (F8_l0 N N)
noncomputable def q2(N:Nat):=kBlock 0 (kq (F8_E N) (c69 [1,1]) (kEnd (F8_E N) [] Tryz.f69.results.toList [(.int .i64), .bool]))
noncomputable def q1(N m0:Nat):=kBlock 1 (kq (F8_E N) (c69 [1,0,1,0,0,1,1,1]) (kSeq (advOf (F8_E N) (c69 [1,0,1,0,0])) (fun st K=>lq (F8_E N) (c69 [1,0,1,0,0]) m0 st K) (q2 N)))
noncomputable def F8_e1(N m0:Nat)(v3:Int)(v4:Bool)(v1:List Int)(v6 v8 v7:Int):=
 gate N (evC (F8_E N) (c69 [1,0,1,0,0,1,1,0,0,1,0,1]) ⟨[(1, .pv (.int .i64) v6),(2, .pv (.int .i64) v3),(3, .pv .bool v4),(11, .pv (.int .i64) v8),(12, .pv (.list (.int .i64)) v1),(13, .pv (.int .i64) (v1.length:Int)),(14, .pv (.int .i64) v7),(38, .pv .bool true)],[],[]⟩ (kq (F8_E N) (c69 [1,0,1,0,0,1,1,0,0,1,1]) (q1 N m0)))
noncomputable def F8_e2(N m0:Nat)(v3:Int)(v4:Bool)(v1:List Int)(v8 v7:Int):=
 gate N (evC (F8_E N) (c69 [1,0,1,0,0,1,1,0,0,1,1]) ⟨[(2, .pv (.int .i64) v3),(3, .pv .bool v4),(11, .pv (.int .i64) v8),(12, .pv (.list (.int .i64)) v1),(13, .pv (.int .i64) (v1.length:Int)),(14, .pv (.int .i64) v7)],[],[]⟩ (q1 N m0))
noncomputable def F8_e0(N n:Nat)(v3:Int)(v4:Bool)(v1:List Int)(v6 v7:Int):=
 lq (F8_E N) (c69 [1,0,1,0,0]) n ⟨[(1, .pv (.int .i64) v6),(2, .pv (.int .i64) v3),(3, .pv .bool v4),(12, .pv (.list (.int .i64)) v1),(13, .pv (.int .i64) (v1.length:Int)),(14, .pv (.int .i64) v7)],[],[]⟩ (q2 N)
theorem F8_t1(N m0:Nat)(v3:Int)(v4:Bool)(v1:List Int)(v6 v8 v7:Int):F8_e1 N m0 v3 v4 v1 v6 v8 v7=F8_j1 N (F8_e0 N m0 v3 v4 v1) v3 v4 v1 v6 v8 v7:=by
 exact(congrArg (gate N) (show _=F8_g1 N v3 v4 v1 v6 v8 v7 (F8_e0 N m0 v3 v4 v1)from by kernel_rfl)).trans (by rfl)
theorem F8_t2(N m0:Nat)(v3:Int)(v4:Bool)(v1:List Int)(v8 v7:Int):F8_e2 N m0 v3 v4 v1 v8 v7=F8_j2 N (F8_e0 N m0 v3 v4 v1) v3 v4 v1 v8 v7:=by
 exact(congrArg (gate N) (show _=F8_g2 N v3 v4 v1 v8 v7 (F8_e0 N m0 v3 v4 v1)from by kernel_rfl)).trans (by rfl)
theorem F8_t0(N:Nat):∀(n:Nat) (v3:Int) (v4:Bool) (v1:List Int) (v6 v7:Int),F8_e0 N n v3 v4 v1 v6 v7=F8_l0 N n v3 v4 v1 v6 v7
 |0,_,_,_,_,_=>rfl
 |n+1,v3,v4,v1,v6,v7=>by
  have h1:(F8_e1 N n v3 v4 v1)=(F8_j1 N (F8_e0 N n v3 v4 v1) v3 v4 v1):=by funext v6 v8 v7;exact F8_t1 N n v3 v4 v1 v6 v8 v7
  have h2:(F8_e2 N n v3 v4 v1)=(F8_j2 N (F8_e0 N n v3 v4 v1) v3 v4 v1):=by funext v8 v7;exact F8_t2 N n v3 v4 v1 v8 v7
  have h:F8_e0 N n v3 v4 v1=F8_l0 N n v3 v4 v1:=by funext v6 v7;exact F8_t0 N n v3 v4 v1 v6 v7
  exact Eq.trans (b:=F8_g0 N v3 v4 v1 (F8_e1 N n v3 v4 v1) (F8_e2 N n v3 v4 v1) (F8_e0 N n v3 v4 v1) v6 v7) (by kernel_rfl) (by rw[h1,h2,h];rfl)
theorem F8_t(N:Nat)(v1:List Int)(v2 v3:Int)(v4:Bool):evF (F8_E N) [] Tryz.f69 [.k (.list (.int .i64)), .k (.int .i64), .k (.int .i64), .k .bool] [(.int .i64), .bool] (v1,v2,v3,v4,())=F8 N v1 v2 v3 v4:=by
 have h0:(F8_e0 N N)=(F8_l0 N N):=by funext v3 v4 v1 v6 v7;exact F8_t0 N N v3 v4 v1 v6 v7
 exact Eq.trans (b:=F8_g N v1 v2 v3 v4 (F8_e0 N N)) (by kernel_rfl) (by rw[h0];rfl)
noncomputable def F8_con(N:Nat):Con:=⟨69,[.k (.list (.int .i64)), .k (.int .i64), .k (.int .i64), .k .bool],[(.int .i64), .bool],fun x=>F8 N x.1 x.2.1 x.2.2.1 x.2.2.2.1⟩
theorem F8_s(N:Nat):(F8_con N).Sound PG (GL N):=
 Con.sound_of (c:=F8_con N) (E:=(F8_E N)) (idle:=[]) Tryz.func69 (by kernel_rfl) (by kernel_rfl) ⟨allNil,allNil,rfl⟩ allNil (fun x y h=>(F8_t N x.1 x.2.1 x.2.2.1 x.2.2.2.1).trans h)
noncomputable def F9_g1(N:Nat)(self:Geo→Option (Bool))(v1:Geo)(v6:Int)(r0:Int→Option (Bool)):Option (Bool):=
 (r0 (IntKind.i64.wrap (v6+1)))
noncomputable def F9_j1(N:Nat)(self:Geo→Option (Bool))(r0:Int→Option (Bool))(v1:Geo)(v6:Int):Option (Bool):=
 gate N (F9_g1 N self v1 v6 r0)
noncomputable def F9_g0(N:Nat)(self:Geo→Option (Bool))(v1:Geo)(c1 r0:Int→Option (Bool))(v6:Int):Option (Bool):=
 (bif(decide ((v6:Int)<(v1.kids.length:Int)))then((nth v1.kids v6).bind fun v7=>((self (Geo.mk v7.kind v7.layout v7.srid v7.flat v7.ends v7.endss v7.kids)).bind fun v8=>bif(!v8)then(some false)else(bif(v1.layout !=0)then((F7 N N (Geo.mk v7.kind v7.layout v7.srid v7.flat v7.ends v7.endss v7.kids)).bind fun v9=>(bif(v9 !=v1.layout)then(some false)else(c1 v6)))else(c1 v6))))else(bif(decide ((v1.layout:Int)≥0))then(some ((IntKind.i64.wrap ((IntKind.i64.wrap ((v1.flat.length:Int)+(v1.ends.length:Int)))+(v1.endss.length:Int)))==0))else(some false)))
noncomputable def F9_l0(N:Nat)(self:Geo→Option (Bool)):Nat→Geo→Int→Option (Bool)
 |0,_,_=>none
 |n+1,v1,v6=>F9_g0 N self v1 (F9_j1 N self (F9_l0 N self n v1) v1) (F9_l0 N self n v1) v6
noncomputable def F9_g2(N:Nat)(self:Geo→Option (Bool))(v2:Int)(v1:Geo):Option (Bool):=
 (some false)
noncomputable def F9_j2(N:Nat)(self:Geo→Option (Bool))(v2:Int)(v1:Geo):Option (Bool):=
 gate N (F9_g2 N self v2 v1)
noncomputable def F9_g7(N:Nat)(self:Geo→Option (Bool))(v2:Int)(v1:Geo)(v19:(Int×Bool))(v17:Int)(r6:Int→Bool→Int→Option (Bool))(v20:Bool):Option (Bool):=
 (r6 v19.1 v20 (IntKind.i64.wrap (v17+1)))
noncomputable def F9_j7(N:Nat)(self:Geo→Option (Bool))(r6:Int→Bool→Int→Option (Bool))(v2:Int)(v1:Geo)(v19:(Int×Bool))(v17:Int)(v20:Bool):Option (Bool):=
 gate N (F9_g7 N self v2 v1 v19 v17 r6 v20)
noncomputable def F9_g6(N:Nat)(self:Geo→Option (Bool))(v2:Int)(v1:Geo)(c7:(Int×Bool)→Int→Bool→Option (Bool))(r6:Int→Bool→Int→Option (Bool))(v15:Int)(v16:Bool)(v17:Int):Option (Bool):=
 (bif(decide ((v17:Int)<(v1.endss.length:Int)))then((nth v1.endss v17).bind fun v18=>((F8 N v18 v15 v2 false).bind fun v19=>(bif v16 then(c7 v19 v17 v19.2)else(c7 v19 v17 false))))else(bif v16 then(bif(v15==(v1.flat.length:Int))then(some ((v1.ends.length:Int)==0))else(some false))else(some false)))
noncomputable def F9_l6(N:Nat)(self:Geo→Option (Bool)):Nat→Int→Geo→Int→Bool→Int→Option (Bool)
 |0,_,_,_,_,_=>none
 |n+1,v2,v1,v15,v16,v17=>F9_g6 N self v2 v1 (F9_j7 N self (F9_l6 N self n v2 v1) v2 v1) (F9_l6 N self n v2 v1) v15 v16 v17
noncomputable def F9_g5(N:Nat)(self:Geo→Option (Bool))(v2:Int)(v1:Geo)(c6:Int→Geo→Int→Bool→Int→Option (Bool))(v11:Bool):Option (Bool):=
 bif v11 then((F8 N v1.ends 0 v2 (v1.kind==4)).bind fun v12=>(bif v12.2 then(some (v12.1==(v1.flat.length:Int)))else(some false)))else(bif(v1.kind==6)then((c6 v2 v1 0 true 0))else(some false))
noncomputable def F9_j5(N:Nat)(self:Geo→Option (Bool))(v2:Int)(v1:Geo)(v11:Bool):Option (Bool):=
 gate N (F9_g5 N self v2 v1 (F9_l6 N self N) v11)
noncomputable def F9_g4(N:Nat)(self:Geo→Option (Bool))(v2:Int)(v1:Geo)(c5:Int→Geo→Bool→Option (Bool))(v10:Bool):Option (Bool):=
 bif v10 then(some ((v1.ends.length:Int)==0))else(bif(v1.kind==3)then(c5 v2 v1 (v1.kind==3))else(bif(v1.kind==4)then(c5 v2 v1 (v1.kind==4))else(c5 v2 v1 (v1.kind==5))))
noncomputable def F9_j4(N:Nat)(self:Geo→Option (Bool))(v2:Int)(v1:Geo)(v10:Bool):Option (Bool):=
 gate N (F9_g4 N self v2 v1 (F9_j5 N self) v10)
noncomputable def F9_g3(N:Nat)(self:Geo→Option (Bool))(v2:Int)(v1:Geo)(c4:Int→Geo→Bool→Option (Bool)):Option (Bool):=
 (bif(v1.kind==1)then(bif((v1.ends.length:Int)==0)then(some (decide (((v1.flat.length:Int):Int)≤v2)))else(some false))else(bif(v1.kind==2)then(c4 v2 v1 (v1.kind==2))else(c4 v2 v1 (v1.kind==8))))
noncomputable def F9_j3(N:Nat)(self:Geo→Option (Bool))(v2:Int)(v1:Geo):Option (Bool):=
 gate N (F9_g3 N self v2 v1 (F9_j4 N self))
noncomputable def F9_g(N:Nat)(self:Geo→Option (Bool))(v1:Geo)(c0:Geo→Int→Option (Bool))(c2 c3:Int→Geo→Option (Bool)):Option (Bool):=
 ((F5 N v1.layout).bind fun v2=>(bif(v1.kind==7)then((c0 v1 0))else(bif(v2==0)then(c2 v2 v1)else(if v2=0 then none else bif((Int.tmod (v1.flat.length:Int) v2) !=0)then(c2 v2 v1)else(bif(decide (((v1.kids.length:Int):Int)>0))then(c2 v2 v1)else(bif(decide (((v1.endss.length:Int):Int)>0))then(gate N (bif(v1.kind !=6)then(some false)else(c3 v2 v1)))else(gate N (c3 v2 v1))))))))
noncomputable def F9(N:Nat):Nat→Geo→Option (Bool)
 |0,_=>none
 |d+1,v1=>F9_g N (F9 N d) v1 (F9_l0 N (F9 N d) N) (F9_j2 N (F9 N d)) (F9_j3 N (F9 N d))
noncomputable def F9_con'(N d:Nat):Con:=⟨34,[.k .geo],[.bool],fun x=>F9 N d x.1⟩
noncomputable def F9_E(N d:Nat):Env:=⟨PG,N,[F9_con' N d,F5_con N,F7_con N,F8_con N],[nm 0 [0] [],nm 1 [1] [1],nm 2 [1,3] [1],nm 3 [1,3,18] [1],nm 4 [1,20,21,22] [1],nm 5 [1,20,21,22] [1],nm 6 [1,5,20,21,22] [1,5],nm 7 [1,20,21,22,40] [1],ng N 8 [1,20,21,22] [1],nm 9 [1] [1],nm 10 [1,3] [1],ng N 11 [1,3,85] [1],ng N 12 [1,3] [1],nm 13 [1,3,87] [1],nm 14 [1,3,87,88] [1],nm 16 [1,3,87,101] [1],ng N 17 [1,3,87,101] [1],nm 19 [1,3,87,108] [1],nm 20 [1,3,87,108] [1],ng N 21 [1,3,87,108] [1],nm 22 [1,6,7] [1],nm 24 [1,3,130] [1],nm 25 [1,3,8,9] [1],nm 26 [1,3,8,9,133,134,135] [1],nm 27 [1,3,8,9,133,134,135] [1],nm 28 [1,3,8,9,11,133,134,135] [1],nm 29 [1,3,8,9,11,133,134,135] [1],nm 30 [1,3,8,9,12,133,134,135] [1],ng N 31 [1,3,8,9,133,134,135] [1],nm 32 [1,8,9] [1],nm 33 [] []],kdL [],[],[],(GL N),tl0,[]⟩
noncomputable def q3(N d:Nat):=kEnd (F9_E N d) [] Tryz.f34.results.toList [.bool]
noncomputable def q6(N d:Nat):=kBlock 0 (kq (F9_E N d) (c34 [1,1,0,1,0,1]) (kq (F9_E N d) (c34 [1,1,1]) (q3 N d)))
noncomputable def F9_e1(N d m0:Nat)(v1:Geo)(v6:Int):=
 gate N (evC (F9_E N d) (c34 [1,1,0,1,0,0,1,0,0,1,1,1]) ⟨[(1, .ref 1 0),(20, .pv (.list .geo) v1.kids),(21, .pv (.int .i64) (v1.kids.length:Int)),(22, .pv (.int .i64) v6)],[(1, .box [.pv (.int .i64) v1.kind, .pv (.int .i64) v1.layout, .pv (.int .i64) v1.srid, .pv (.list .float) v1.flat, .pv (.list (.int .i64)) v1.ends, .pv (.list (.list (.int .i64))) v1.endss, .pv (.list .geo) v1.kids])],[]⟩ (kSeq (advOf (F9_E N d) (c34 [1,1,0,1,0,0,1,0,0])) (fun st K=>lq (F9_E N d) (c34 [1,1,0,1,0,0,1,0,0]) m0 st K) (q6 N d)))
noncomputable def F9_e0(N d n:Nat)(v1:Geo)(v6:Int):=
 lq (F9_E N d) (c34 [1,1,0,1,0,0,1,0,0]) n ⟨[(1, .ref 1 0),(20, .pv (.list .geo) v1.kids),(21, .pv (.int .i64) (v1.kids.length:Int)),(22, .pv (.int .i64) v6)],[(1, .box [.pv (.int .i64) v1.kind, .pv (.int .i64) v1.layout, .pv (.int .i64) v1.srid, .pv (.list .float) v1.flat, .pv (.list (.int .i64)) v1.ends, .pv (.list (.list (.int .i64))) v1.endss, .pv (.list .geo) v1.kids])],[]⟩ (q6 N d)
noncomputable def F9_e2(N d:Nat)(v2:Int)(v1:Geo):=
 gate N (evC (F9_E N d) (c34 [1,1,1,0,1]) ⟨[(1, .ref 1 0),(3, .pv (.int .i64) v2),(85, .pv .bool true)],[(1, .box [.pv (.int .i64) v1.kind, .pv (.int .i64) v1.layout, .pv (.int .i64) v1.srid, .pv (.list .float) v1.flat, .pv (.list (.int .i64)) v1.ends, .pv (.list (.list (.int .i64))) v1.endss, .pv (.list .geo) v1.kids])],[]⟩ (kq (F9_E N d) (c34 [1,1,1,1]) (q3 N d)))
noncomputable def q4(N d:Nat):=kBlock 2 (kq (F9_E N d) (c34 [1,1,1,1,1]) (q3 N d))
noncomputable def q5:=c34 [1,1,1,1,0,1,0,1,1,1,1,1,1,1,0,1,0,1,0,0]
noncomputable def q7(N d:Nat):=kBlock 3 (kq (F9_E N d) (c34 [1,1,1,1,0,1,0,1,1,1,1,1,1,1,0,1,1]) (q4 N d))
noncomputable def F9_e7(N d m6:Nat)(v2:Int)(v1:Geo)(v19:(Int×Bool))(v17:Int)(v20:Bool):=
 gate N (evC (F9_E N d) (c34 [1,1,1,1,0,1,0,1,1,1,1,1,1,1,0,1,0,1,0,0,1,1,1]) ⟨[(1, .ref 1 0),(3, .pv (.int .i64) v2),(8, .pv (.int .i64) v19.1),(9, .pv .bool v20),(133, .pv (.list (.list (.int .i64))) v1.endss),(134, .pv (.int .i64) (v1.endss.length:Int)),(135, .pv (.int .i64) v17)],[(1, .box [.pv (.int .i64) v1.kind, .pv (.int .i64) v1.layout, .pv (.int .i64) v1.srid, .pv (.list .float) v1.flat, .pv (.list (.int .i64)) v1.ends, .pv (.list (.list (.int .i64))) v1.endss, .pv (.list .geo) v1.kids])],[]⟩ (kSeq (advOf (F9_E N d) q5) (fun st K=>lq (F9_E N d) q5 m6 st K) (q7 N d)))
noncomputable def F9_e6(N d n:Nat)(v2:Int)(v1:Geo)(v15:Int)(v16:Bool)(v17:Int):=
 lq (F9_E N d) q5 n ⟨[(1, .ref 1 0),(3, .pv (.int .i64) v2),(8, .pv (.int .i64) v15),(9, .pv .bool v16),(133, .pv (.list (.list (.int .i64))) v1.endss),(134, .pv (.int .i64) (v1.endss.length:Int)),(135, .pv (.int .i64) v17)],[(1, .box [.pv (.int .i64) v1.kind, .pv (.int .i64) v1.layout, .pv (.int .i64) v1.srid, .pv (.list .float) v1.flat, .pv (.list (.int .i64)) v1.ends, .pv (.list (.list (.int .i64))) v1.endss, .pv (.list .geo) v1.kids])],[]⟩ (q7 N d)
noncomputable def F9_e5(N d:Nat)(v2:Int)(v1:Geo)(v11:Bool):=
 gate N (evC (F9_E N d) (c34 [1,1,1,1,0,1,0,1,1,1,1,1]) ⟨[(1, .ref 1 0),(3, .pv (.int .i64) v2),(87, .pv (.int .i64) v1.kind),(108, .pv .bool v11)],[(1, .box [.pv (.int .i64) v1.kind, .pv (.int .i64) v1.layout, .pv (.int .i64) v1.srid, .pv (.list .float) v1.flat, .pv (.list (.int .i64)) v1.ends, .pv (.list (.list (.int .i64))) v1.endss, .pv (.list .geo) v1.kids])],[]⟩ (q4 N d))
noncomputable def F9_e4(N d:Nat)(v2:Int)(v1:Geo)(v10:Bool):=
 gate N (evC (F9_E N d) (c34 [1,1,1,1,0,1,0,1,1,1]) ⟨[(1, .ref 1 0),(3, .pv (.int .i64) v2),(87, .pv (.int .i64) v1.kind),(101, .pv .bool v10)],[(1, .box [.pv (.int .i64) v1.kind, .pv (.int .i64) v1.layout, .pv (.int .i64) v1.srid, .pv (.list .float) v1.flat, .pv (.list (.int .i64)) v1.ends, .pv (.list (.list (.int .i64))) v1.endss, .pv (.list .geo) v1.kids])],[]⟩ (q4 N d))
noncomputable def F9_e3(N d:Nat)(v2:Int)(v1:Geo):=
 gate N (evC (F9_E N d) (c34 [1,1,1,1]) ⟨[(1, .ref 1 0),(3, .pv (.int .i64) v2)],[(1, .box [.pv (.int .i64) v1.kind, .pv (.int .i64) v1.layout, .pv (.int .i64) v1.srid, .pv (.list .float) v1.flat, .pv (.list (.int .i64)) v1.ends, .pv (.list (.list (.int .i64))) v1.endss, .pv (.list .geo) v1.kids])],[]⟩ (q3 N d))
theorem F9_t1(N d m0:Nat)(v1:Geo)(v6:Int):F9_e1 N d m0 v1 v6=F9_j1 N (F9 N d) (F9_e0 N d m0 v1) v1 v6:=by
 exact(congrArg (gate N) (show _=F9_g1 N (F9 N d) v1 v6 (F9_e0 N d m0 v1)from by kernel_rfl)).trans (by rfl)
theorem F9_t0(N d:Nat):∀(n:Nat) (v1:Geo) (v6:Int),F9_e0 N d n v1 v6=F9_l0 N (F9 N d) n v1 v6
 |0,_,_=>rfl
 |n+1,v1,v6=>by
  have h1:(F9_e1 N d n v1)=(F9_j1 N (F9 N d) (F9_e0 N d n v1) v1):=by funext v6;exact F9_t1 N d n v1 v6
  have h:F9_e0 N d n v1=F9_l0 N (F9 N d) n v1:=by funext v6;exact F9_t0 N d n v1 v6
  exact Eq.trans (b:=F9_g0 N (F9 N d) v1 (F9_e1 N d n v1) (F9_e0 N d n v1) v6) (by kernel_rfl) (by rw[h1,h];rfl)
theorem F9_t2(N d:Nat)(v2:Int)(v1:Geo):F9_e2 N d v2 v1=F9_j2 N (F9 N d) v2 v1:=by
 exact(congrArg (gate N) (show _=F9_g2 N (F9 N d) v2 v1 from by kernel_rfl)).trans (by rfl)
theorem F9_t7(N d m6:Nat)(v2:Int)(v1:Geo)(v19:(Int×Bool))(v17:Int)(v20:Bool):F9_e7 N d m6 v2 v1 v19 v17 v20=F9_j7 N (F9 N d) (F9_e6 N d m6 v2 v1) v2 v1 v19 v17 v20:=by
 exact(congrArg (gate N) (show _=F9_g7 N (F9 N d) v2 v1 v19 v17 (F9_e6 N d m6 v2 v1) v20 from by kernel_rfl)).trans (by rfl)
theorem F9_t6(N d:Nat):∀(n:Nat) (v2:Int) (v1:Geo) (v15:Int) (v16:Bool) (v17:Int),F9_e6 N d n v2 v1 v15 v16 v17=F9_l6 N (F9 N d) n v2 v1 v15 v16 v17
 |0,_,_,_,_,_=>rfl
 |n+1,v2,v1,v15,v16,v17=>by
  have h7:(F9_e7 N d n v2 v1)=(F9_j7 N (F9 N d) (F9_e6 N d n v2 v1) v2 v1):=by funext v19 v17 v20;exact F9_t7 N d n v2 v1 v19 v17 v20
  have h:F9_e6 N d n v2 v1=F9_l6 N (F9 N d) n v2 v1:=by funext v15 v16 v17;exact F9_t6 N d n v2 v1 v15 v16 v17
  exact Eq.trans (b:=F9_g6 N (F9 N d) v2 v1 (F9_e7 N d n v2 v1) (F9_e6 N d n v2 v1) v15 v16 v17) (by kernel_rfl) (by rw[h7,h];rfl)
theorem F9_t5(N d:Nat)(v2:Int)(v1:Geo)(v11:Bool):F9_e5 N d v2 v1 v11=F9_j5 N (F9 N d) v2 v1 v11:=by
 have h6:(F9_e6 N d N)=(F9_l6 N (F9 N d) N):=by funext v2 v1 v15 v16 v17;exact F9_t6 N d N v2 v1 v15 v16 v17
 exact(congrArg (gate N) (show _=F9_g5 N (F9 N d) v2 v1 (F9_e6 N d N) v11 from by kernel_rfl)).trans (by rw[h6];rfl)
theorem F9_t4(N d:Nat)(v2:Int)(v1:Geo)(v10:Bool):F9_e4 N d v2 v1 v10=F9_j4 N (F9 N d) v2 v1 v10:=by
 have h5:(F9_e5 N d)=(F9_j5 N (F9 N d)):=by funext v2 v1 v11;exact F9_t5 N d v2 v1 v11
 exact(congrArg (gate N) (show _=F9_g4 N (F9 N d) v2 v1 (F9_e5 N d) v10 from by kernel_rfl)).trans (by rw[h5];rfl)
theorem F9_t3(N d:Nat)(v2:Int)(v1:Geo):F9_e3 N d v2 v1=F9_j3 N (F9 N d) v2 v1:=by
 have h4:(F9_e4 N d)=(F9_j4 N (F9 N d)):=by funext v2 v1 v10;exact F9_t4 N d v2 v1 v10
 exact(congrArg (gate N) (show _=F9_g3 N (F9 N d) v2 v1 (F9_e4 N d)from by kernel_rfl)).trans (by rw[h4];rfl)
theorem F9_t(N d:Nat)(v1:Geo):evF (F9_E N d) [] Tryz.f34 [.k .geo] [.bool] (v1,())=F9 N (d+1) v1:=by
 have h0:(F9_e0 N d N)=(F9_l0 N (F9 N d) N):=by funext v1 v6;exact F9_t0 N d N v1 v6
 have h2:(F9_e2 N d)=(F9_j2 N (F9 N d)):=by funext v2 v1;exact F9_t2 N d v2 v1
 have h3:(F9_e3 N d)=(F9_j3 N (F9 N d)):=by funext v2 v1;exact F9_t3 N d v2 v1
 exact Eq.trans (b:=F9_g N (F9 N d) v1 (F9_e0 N d N) (F9_e2 N d) (F9_e3 N d)) (by kernel_rfl) (by rw[h0,h2,h3];rfl)
theorem F9_s'(N:Nat):∀d,(F9_con' N d).Sound PG (GL N)
 |0=>fun _ _ _ _ _ _ _ _ h=>by cases h
 |d+1=>Con.sound_of (c:=F9_con' N (d+1)) (E:=(F9_E N d)) (idle:=[]) Tryz.func34 (by kernel_rfl) (by kernel_rfl) ⟨(allCons (F9_s' N d) (allCons (F5_s N) (allCons (F7_s N) (allCons (F8_s N) allNil)))),allNil,rfl⟩ allNil (fun x y h=>(F9_t N d x.1).trans h)
noncomputable def F9_con(N:Nat):Con:=F9_con' N N
theorem F9_s(N:Nat):(F9_con N).Sound PG (GL N):=F9_s' N N
noncomputable def F10_E(N:Nat):Env:=⟨PG,N,[F4_con N,F9_con N],[nm 0 [0] [],nm 1 [0] [],nm 2 [0,7] [],nm 3 [0] [],nm 4 [8,9,10] [],nm 5 [8,9,10] [],nm 6 [4,8,9,10] [4],nm 7 [8,9,10,16] [],nm 8 [8,9,10] [],nm 9 [] []],kdL [],[],[],(GL N),tl0,[]⟩
noncomputable def F10_g0(N:Nat)(v1:List Geo)(r0:Int→Option (Bool))(v5:Int):Option (Bool):=
 (bif(decide ((v5:Int)<(v1.length:Int)))then((nth v1 v5).bind fun v6=>((F9 N N (Geo.mk v6.kind v6.layout v6.srid v6.flat v6.ends v6.endss v6.kids)).bind fun v7=>(bif(!v7)then(some false)else((r0 (IntKind.i64.wrap (v5+1)))))))else(some true))
noncomputable def F10_l0(N:Nat):Nat→(List Geo)→Int→Option (Bool)
 |0,_,_=>none
 |n+1,v1,v5=>F10_g0 N v1 (F10_l0 N n v1) v5
noncomputable def F10_g(N:Nat)(v1:List Geo)(c0:(List Geo)→Int→Option (Bool)):Option (Bool):=
 ((F4 N v1).bind fun v2=>(bif(!v2)then(some false)else((c0 v1 0))))
noncomputable def F10(N:Nat)(v1:List Geo):Option (Bool):=
 F10_g N v1 (F10_l0 N N)
noncomputable def F10_e0(N n:Nat)(v1:List Geo)(v5:Int):=
 lq (F10_E N) (c14 [1,1,0,1,0,0]) n ⟨[(8, .pv (.list .geo) v1),(9, .pv (.int .i64) (v1.length:Int)),(10, .pv (.int .i64) v5)],[],[]⟩ (kBlock 0 (kq (F10_E N) (c14 [1,1,1]) (kEnd (F10_E N) [] Tryz.f14.results.toList [.bool])))
theorem F10_t0(N:Nat):∀(n:Nat) (v1:List Geo) (v5:Int),F10_e0 N n v1 v5=F10_l0 N n v1 v5
 |0,_,_=>rfl
 |n+1,v1,v5=>by
  have h:F10_e0 N n v1=F10_l0 N n v1:=by funext v5;exact F10_t0 N n v1 v5
  exact Eq.trans (b:=F10_g0 N v1 (F10_e0 N n v1) v5) (by kernel_rfl) (by rw[h];rfl)
theorem F10_t(N:Nat)(v1:List Geo):evF (F10_E N) [] Tryz.f14 [.k (.list .geo)] [.bool] (v1,())=F10 N v1:=by
 have h0:(F10_e0 N N)=(F10_l0 N N):=by funext v1 v5;exact F10_t0 N N v1 v5
 exact Eq.trans (b:=F10_g N v1 (F10_e0 N N)) (by kernel_rfl) (by rw[h0];rfl)
noncomputable def F10_con(N:Nat):Con:=⟨14,[.k (.list .geo)],[.bool],fun x=>F10 N x.1⟩
theorem F10_s(N:Nat):(F10_con N).Sound PG (GL N):=
 Con.sound_of (c:=F10_con N) (E:=(F10_E N)) (idle:=[]) Tryz.func14 (by kernel_rfl) (by kernel_rfl) ⟨(allCons (F4_s N) (allCons (F9_s N) allNil)),allNil,rfl⟩ allNil (fun x y h=>(F10_t N x.1).trans h)
noncomputable def F11_E(N:Nat):Env:=⟨PG,N,[],[nm 0 [0] [],nm 1 [0] []],kdL [],[],[],(GL N),tl0,[]⟩
noncomputable def F11_g(N v1:Nat):Option (Bool):=
 (some (feq v1 v1))
noncomputable def F11(N v1:Nat):Option (Bool):=
 F11_g N v1
theorem F11_t(N v1:Nat):evF (F11_E N) [] Tryz.f17 [.k .float] [.bool] (v1,())=F11 N v1:=
 Eq.trans (b:=F11_g N v1) (by kernel_rfl) rfl
noncomputable def F11_con(N:Nat):Con:=⟨17,[.k .float],[.bool],fun x=>F11 N x.1⟩
theorem F11_s(N:Nat):(F11_con N).Sound PG (GL N):=
 Con.sound_of (c:=F11_con N) (E:=(F11_E N)) (idle:=[]) Tryz.func17 (by kernel_rfl) (by kernel_rfl) ⟨allNil,allNil,rfl⟩ allNil (fun x y h=>(F11_t N x.1).trans h)
noncomputable def F12_g1(N:Nat)(self:Geo→Option (Bool))(v1:Geo)(r1:Int→Option (Bool))(v9:Int):Option (Bool):=
 (bif(decide ((v9:Int)<(v1.kids.length:Int)))then((nth v1.kids v9).bind fun v10=>((self (Geo.mk v10.kind v10.layout v10.srid v10.flat v10.ends v10.endss v10.kids)).bind fun v11=>(bif(!v11)then(some false)else((r1 (IntKind.i64.wrap (v9+1)))))))else(some true))
noncomputable def F12_l1(N:Nat)(self:Geo→Option (Bool)):Nat→Geo→Int→Option (Bool)
 |0,_,_=>none
 |n+1,v1,v9=>F12_g1 N self v1 (F12_l1 N self n v1) v9
noncomputable def F12_g0(N:Nat)(self:Geo→Option (Bool))(v1:Geo)(c1:Geo→Int→Option (Bool))(r0:Int→Option (Bool))(v4:Int):Option (Bool):=
 (bif(decide ((v4:Int)<(v1.flat.length:Int)))then((nth v1.flat v4).bind fun v5=>((F11 N v5).bind fun v6=>(bif(!v6)then(some false)else((r0 (IntKind.i64.wrap (v4+1)))))))else((c1 v1 0)))
noncomputable def F12_l0(N:Nat)(self:Geo→Option (Bool)):Nat→Geo→Int→Option (Bool)
 |0,_,_=>none
 |n+1,v1,v4=>F12_g0 N self v1 (F12_l1 N self N) (F12_l0 N self n v1) v4
noncomputable def F12_g(N:Nat)(self:Geo→Option (Bool))(v1:Geo)(c0:Geo→Int→Option (Bool)):Option (Bool):=
 ((c0 v1 0))
noncomputable def F12(N:Nat):Nat→Geo→Option (Bool)
 |0,_=>none
 |d+1,v1=>F12_g N (F12 N d) v1 (F12_l0 N (F12 N d) N)
noncomputable def F12_con'(N d:Nat):Con:=⟨16,[.k .geo, .fn 17],[.bool],fun x=>F12 N d x.1⟩
noncomputable def F12_E(N d:Nat):Env:=⟨PG,N,[F12_con' N d,F11_con N],[nm 0 [0,1] [],nm 1 [1,2] [2],nm 2 [1,2,10,11,12] [2],nm 3 [1,2,10,11,12] [2],nm 4 [1,2,6,10,11,12] [2],nm 5 [1,2,10,11,12,19] [2],nm 6 [1,2,10,11,12] [2],nm 7 [1,2] [2],nm 8 [1,22,23,24] [],nm 9 [1,22,23,24] [],nm 10 [1,8,22,23,24] [8],nm 11 [1,22,23,24,31] [],nm 12 [1,22,23,24] [],nm 13 [] []],kdL [],[],[],(GL N),tl0,[]⟩
noncomputable def F12_e1(N d n:Nat)(v1:Geo)(v9:Int):=
 lq (F12_E N d) (c16 [1,1,0,1,0,0]) n ⟨[(1, .func 17 []),(22, .pv (.list .geo) v1.kids),(23, .pv (.int .i64) (v1.kids.length:Int)),(24, .pv (.int .i64) v9)],[],[]⟩ (kBlock 2 (kq (F12_E N d) (c16 [1,1,1]) (kEnd (F12_E N d) [] Tryz.f16.results.toList [.bool])))
noncomputable def F12_e0(N d n:Nat)(v1:Geo)(v4:Int):=
 lq (F12_E N d) (c16 [1,0,1,0,0]) n ⟨[(1, .func 17 []),(2, .ref 2 0),(10, .pv (.list .float) v1.flat),(11, .pv (.int .i64) (v1.flat.length:Int)),(12, .pv (.int .i64) v4)],[(2, .box [.pv (.int .i64) v1.kind, .pv (.int .i64) v1.layout, .pv (.int .i64) v1.srid, .pv (.list .float) v1.flat, .pv (.list (.int .i64)) v1.ends, .pv (.list (.list (.int .i64))) v1.endss, .pv (.list .geo) v1.kids])],[]⟩ (kBlock 0 (kq (F12_E N d) (c16 [1,1]) (kEnd (F12_E N d) [] Tryz.f16.results.toList [.bool])))
theorem F12_t1(N d:Nat):∀(n:Nat) (v1:Geo) (v9:Int),F12_e1 N d n v1 v9=F12_l1 N (F12 N d) n v1 v9
 |0,_,_=>rfl
 |n+1,v1,v9=>by
  have h:F12_e1 N d n v1=F12_l1 N (F12 N d) n v1:=by funext v9;exact F12_t1 N d n v1 v9
  exact Eq.trans (b:=F12_g1 N (F12 N d) v1 (F12_e1 N d n v1) v9) (by kernel_rfl) (by rw[h];rfl)
theorem F12_t0(N d:Nat):∀(n:Nat) (v1:Geo) (v4:Int),F12_e0 N d n v1 v4=F12_l0 N (F12 N d) n v1 v4
 |0,_,_=>rfl
 |n+1,v1,v4=>by
  have h1:(F12_e1 N d N)=(F12_l1 N (F12 N d) N):=by funext v1 v9;exact F12_t1 N d N v1 v9
  have h:F12_e0 N d n v1=F12_l0 N (F12 N d) n v1:=by funext v4;exact F12_t0 N d n v1 v4
  exact Eq.trans (b:=F12_g0 N (F12 N d) v1 (F12_e1 N d N) (F12_e0 N d n v1) v4) (by kernel_rfl) (by rw[h1,h];rfl)
theorem F12_t(N d:Nat)(v1:Geo):evF (F12_E N d) [] Tryz.f16 [.k .geo, .fn 17] [.bool] (v1,())=F12 N (d+1) v1:=by
 have h0:(F12_e0 N d N)=(F12_l0 N (F12 N d) N):=by funext v1 v4;exact F12_t0 N d N v1 v4
 exact Eq.trans (b:=F12_g N (F12 N d) v1 (F12_e0 N d N)) (by kernel_rfl) (by rw[h0];rfl)
theorem F12_s'(N:Nat):∀d,(F12_con' N d).Sound PG (GL N)
 |0=>fun _ _ _ _ _ _ _ _ h=>by cases h
 |d+1=>Con.sound_of (c:=F12_con' N (d+1)) (E:=(F12_E N d)) (idle:=[]) Tryz.func16 (by kernel_rfl) (by kernel_rfl) ⟨(allCons (F12_s' N d) (allCons (F11_s N) allNil)),allNil,rfl⟩ allNil (fun x y h=>(F12_t N d x.1).trans h)
noncomputable def F12_con(N:Nat):Con:=F12_con' N N
theorem F12_s(N:Nat):(F12_con N).Sound PG (GL N):=F12_s' N N
noncomputable def F13_g0(N:Nat)(self:Geo→Option (Bool))(v1:Geo)(r0:Int→Option (Bool))(v4:Int):Option (Bool):=
 (bif(decide ((v4:Int)<(v1.kids.length:Int)))then((nth v1.kids v4).bind fun v5=>((self (Geo.mk v5.kind v5.layout v5.srid v5.flat v5.ends v5.endss v5.kids)).bind fun v6=>(bif v6 then(some true)else((r0 (IntKind.i64.wrap (v4+1)))))))else(some (v1.kind==8)))
noncomputable def F13_l0(N:Nat)(self:Geo→Option (Bool)):Nat→Geo→Int→Option (Bool)
 |0,_,_=>none
 |n+1,v1,v4=>F13_g0 N self v1 (F13_l0 N self n v1) v4
noncomputable def F13_g(N:Nat)(self:Geo→Option (Bool))(v1:Geo)(c0:Geo→Int→Option (Bool)):Option (Bool):=
 ((c0 v1 0))
noncomputable def F13(N:Nat):Nat→Geo→Option (Bool)
 |0,_=>none
 |d+1,v1=>F13_g N (F13 N d) v1 (F13_l0 N (F13 N d) N)
noncomputable def F13_con'(N d:Nat):Con:=⟨18,[.k .geo],[.bool],fun x=>F13 N d x.1⟩
noncomputable def F13_E(N d:Nat):Env:=⟨PG,N,[F13_con' N d],[nm 0 [0] [],nm 1 [1] [1],nm 2 [1,6,7,8] [1],nm 3 [1,6,7,8] [1],nm 4 [1,4,6,7,8] [1,4],nm 5 [1,6,7,8,13] [1],nm 6 [1,6,7,8] [1],nm 7 [1] [1]],kdL [],[],[],(GL N),tl0,[]⟩
noncomputable def F13_e0(N d n:Nat)(v1:Geo)(v4:Int):=
 lq (F13_E N d) (c18 [1,0,1,0,0]) n ⟨[(1, .ref 1 0),(6, .pv (.list .geo) v1.kids),(7, .pv (.int .i64) (v1.kids.length:Int)),(8, .pv (.int .i64) v4)],[(1, .box [.pv (.int .i64) v1.kind, .pv (.int .i64) v1.layout, .pv (.int .i64) v1.srid, .pv (.list .float) v1.flat, .pv (.list (.int .i64)) v1.ends, .pv (.list (.list (.int .i64))) v1.endss, .pv (.list .geo) v1.kids])],[]⟩ (kBlock 0 (kq (F13_E N d) (c18 [1,1]) (kEnd (F13_E N d) [] Tryz.f18.results.toList [.bool])))
theorem F13_t0(N d:Nat):∀(n:Nat) (v1:Geo) (v4:Int),F13_e0 N d n v1 v4=F13_l0 N (F13 N d) n v1 v4
 |0,_,_=>rfl
 |n+1,v1,v4=>by
  have h:F13_e0 N d n v1=F13_l0 N (F13 N d) n v1:=by funext v4;exact F13_t0 N d n v1 v4
  exact Eq.trans (b:=F13_g0 N (F13 N d) v1 (F13_e0 N d n v1) v4) (by kernel_rfl) (by rw[h];rfl)
theorem F13_t(N d:Nat)(v1:Geo):evF (F13_E N d) [] Tryz.f18 [.k .geo] [.bool] (v1,())=F13 N (d+1) v1:=by
 have h0:(F13_e0 N d N)=(F13_l0 N (F13 N d) N):=by funext v1 v4;exact F13_t0 N d N v1 v4
 exact Eq.trans (b:=F13_g N (F13 N d) v1 (F13_e0 N d N)) (by kernel_rfl) (by rw[h0];rfl)
theorem F13_s'(N:Nat):∀d,(F13_con' N d).Sound PG (GL N)
 |0=>fun _ _ _ _ _ _ _ _ h=>by cases h
 |d+1=>Con.sound_of (c:=F13_con' N (d+1)) (E:=(F13_E N d)) (idle:=[]) Tryz.func18 (by kernel_rfl) (by kernel_rfl) ⟨(allCons (F13_s' N d) allNil),allNil,rfl⟩ allNil (fun x y h=>(F13_t N d x.1).trans h)
noncomputable def F13_con(N:Nat):Con:=F13_con' N N
theorem F13_s(N:Nat):(F13_con N).Sound PG (GL N):=F13_s' N N
noncomputable def F14_E(N:Nat):Env:=⟨PG,N,[F10_con N,F3_con N,F12_con N,F13_con N],[nm 0 [0] [],nm 1 [1] [1]],kdL [(27, .geo)],[],[],(GL N),tl0,[]⟩
noncomputable def F14_g(N:Nat)(v1:Geo):Option (Bool):=
 ((F10 N ([(Geo.mk v1.kind v1.layout v1.srid v1.flat v1.ends v1.endss v1.kids)]:List Geo)).bind fun v2=>bif v2 then((F3 N N (Geo.mk v1.kind v1.layout v1.srid v1.flat v1.ends v1.endss v1.kids) 4).bind fun v3=>bif v3 then((F12 N N (Geo.mk v1.kind v1.layout v1.srid v1.flat v1.ends v1.endss v1.kids)).bind fun v4=>bif v4 then((F13 N N (Geo.mk v1.kind v1.layout v1.srid v1.flat v1.ends v1.endss v1.kids)).bind fun v5=>(some (!v5)))else(some false))else(some false))else(some false))
noncomputable def F14(N:Nat)(v1:Geo):Option (Bool):=
 F14_g N v1
theorem F14_t(N:Nat)(v1:Geo):evF (F14_E N) [] Tryz.f6 [.k .geo] [.bool] (v1,())=F14 N v1:=
 Eq.trans (b:=F14_g N v1) (by kernel_rfl) rfl
noncomputable def F14_con(N:Nat):Con:=⟨6,[.k .geo],[.bool],fun x=>F14 N x.1⟩
theorem F14_s(N:Nat):(F14_con N).Sound PG (GL N):=
 Con.sound_of (c:=F14_con N) (E:=(F14_E N)) (idle:=[]) Tryz.func6 (by kernel_rfl) (by kernel_rfl) ⟨(allCons (F10_s N) (allCons (F3_s N) (allCons (F12_s N) (allCons (F13_s N) allNil)))),allNil,rfl⟩ allNil (fun x y h=>(F14_t N x.1).trans h)
noncomputable def F15_E(N:Nat):Env:=⟨PG,N,[],[nm 0 [0] [],nm 1 [0] [],nm 2 [3] [],nm 3 [] []],kdL [],[],[],(GL N),tl0,[]⟩
noncomputable def F15_g(N:Nat)(v1:Bool):Option (Ce):=
 (bif v1 then(some (Ce.ifa 104 []))else(some (Ce.ifa 105 [])))
noncomputable def F15(N:Nat)(v1:Bool):Option (Ce):=
 F15_g N v1
theorem F15_t(N:Nat)(v1:Bool):evF (F15_E N) [] Tryz.f22 [.k .bool] [.any] (v1,())=F15 N v1:=
 Eq.trans (b:=F15_g N v1) (by kernel_rfl) rfl
noncomputable def F15_con(N:Nat):Con:=⟨22,[.k .bool],[.any],fun x=>F15 N x.1⟩
theorem F15_s(N:Nat):(F15_con N).Sound PG (GL N):=
 Con.sound_of (c:=F15_con N) (E:=(F15_E N)) (idle:=[]) Tryz.func22 (by kernel_rfl) (by kernel_rfl) ⟨allNil,allNil,rfl⟩ allNil (fun x y h=>(F15_t N x.1).trans h)
noncomputable def F16_E(N:Nat):Env:=⟨PG,N,[],[nm 0 [0] [],nm 1 [0] []],kdL [(65, .float)],[],[],(GL N),tl0,[]⟩
noncomputable def F16_g(N:Nat)(v1:List Nat):Option (((List Nat)×Unit)):=
 ((lim (v1.length*8)).bind fun _=>(some (v1,())))
noncomputable def F16(N:Nat)(v1:List Nat):Option (((List Nat)×Unit)):=
 F16_g N v1
theorem F16_t(N:Nat)(v1:List Nat):evF2 (F16_E N) [] Tryz.f38 [.k (.list .float)] [⟨[.row 65 .float],[none]⟩] (v1,())=F16 N v1:=
 Eq.trans (b:=F16_g N v1) (by kernel_rfl) rfl
noncomputable def F16_con(N:Nat):Con2:=⟨38,[.k (.list .float)],[⟨[.row 65 .float],[none]⟩],fun x=>F16 N x.1⟩
theorem F16_s(N:Nat):(F16_con N).Sound PG (GL N):=
 Con2.sound_of (c:=F16_con N) (E:=(F16_E N)) (idle:=[]) Tryz.func38 (by kernel_rfl) (by kernel_rfl) ⟨allNil,allNil,rfl⟩ allNil (fun x y h=>(F16_t N x.1).trans h)
noncomputable def F17_E(N:Nat):Env:=⟨PG,N,[],[nm 0 [0] [],nm 1 [0] [],nm 3 [0,3] [],nm 4 [0,3,5] [],nm 6 [0,3,7] [],nm 8 [0,3,9] [],nm 10 [0,3,11] [],nm 12 [0,13] []],kdL [],[],[],(GL N),tl0,[]⟩
noncomputable def F17_g(N:Nat)(v1:Int):Option (Int):=
 (bif(v1==0)then(some 0)else(bif(v1==1)then(some 2)else(bif(v1==2)then(some 3)else(bif(v1==3)then(some 3)else(bif(v1==4)then(some 4)else(some v1))))))
noncomputable def F17(N:Nat)(v1:Int):Option (Int):=
 F17_g N v1
theorem F17_t(N:Nat)(v1:Int):evF (F17_E N) [] Tryz.f88 [.k (.int .i64)] [(.int .i64)] (v1,())=F17 N v1:=
 Eq.trans (b:=F17_g N v1) (by kernel_rfl) rfl
noncomputable def F17_con(N:Nat):Con:=⟨88,[.k (.int .i64)],[(.int .i64)],fun x=>F17 N x.1⟩
theorem F17_s(N:Nat):(F17_con N).Sound PG (GL N):=
 Con.sound_of (c:=F17_con N) (E:=(F17_E N)) (idle:=[]) Tryz.func88 (by kernel_rfl) (by kernel_rfl) ⟨allNil,allNil,rfl⟩ allNil (fun x y h=>(F17_t N x.1).trans h)
noncomputable def F18_E(N:Nat):Env:=⟨PG,N,[F17_con N],[nm 0 [0,1] [1000000],nm 1 [0,1] [1000000],nm 2 [0,1,5] [6,1000000],nm 3 [0,1,5] [6,1000000],nm 4 [1,5] [6,1000000],nm 5 [5] [6,1000000]],kdL [],[],[],(GL N),tl0,[]⟩
noncomputable def F18_g(N:Nat)(v1:Int)(v2:List Nat):Option ((T10×Unit)):=
 ((F17 N v1).bind fun v3=>(some ((v1,v3,v2,0,()),())))
noncomputable def F18(N:Nat)(v1:Int)(v2:List Nat):Option ((T10×Unit)):=
 F18_g N v1 v2
theorem F18_t(N:Nat)(v1:Int)(v2:List Nat):evF2 (F18_E N) [] Tryz.f39 s8 a29 (v1,v2,())=F18 N v1 v2:=
 Eq.trans (b:=F18_g N v1 v2) (by kernel_rfl) rfl
noncomputable def F18_con(N:Nat):Con2:=⟨39,s8,a29,fun x=>F18 N x.1 x.2.1⟩
theorem F18_s(N:Nat):(F18_con N).Sound PG (GL N):=
 Con2.sound_of (c:=F18_con N) (E:=(F18_E N)) (idle:=[]) Tryz.func39 (by kernel_rfl) (by kernel_rfl) ⟨(allCons (F17_s N) allNil),allNil,rfl⟩ allNil (fun x y h=>(F18_t N x.1 x.2.1).trans h)
noncomputable def F19_E(N:Nat):Env:=⟨PG,N,[],[nm 0 [0,1] [1000000,1000001],nm 1 [0,1] [1000000,1000001],nm 2 [0] [1000000,1000001]],kdL [],[],[],(GL N),tl0,[]⟩
noncomputable def F19_g(N:Nat)(v1:T10)(v2:Int):Option ((Unit×T10×Unit)):=
 (some ((),(v1.1,v1.2.1,v1.2.2.1,v2,()),()))
noncomputable def F19(N:Nat)(v1:T10)(v2:Int):Option ((Unit×T10×Unit)):=
 F19_g N v1 v2
theorem F19_t(N:Nat)(v1:T10)(v2:Int):evF2 (F19_E N) [] Tryz.f40 s3 a27 (v1,v2,())=F19 N v1 v2:=
 Eq.trans (b:=F19_g N v1 v2) (by kernel_rfl) rfl
noncomputable def F19_con(N:Nat):Con2:=⟨40,s3,a27,fun x=>F19 N x.1 x.2.1⟩
theorem F19_s(N:Nat):(F19_con N).Sound PG (GL N):=
 Con2.sound_of (c:=F19_con N) (E:=(F19_E N)) (idle:=[]) Tryz.func40 (by kernel_rfl) (by kernel_rfl) ⟨allNil,allNil,rfl⟩ allNil (fun x y h=>(F19_t N x.1 x.2.1).trans h)
noncomputable def F20_E(N:Nat):Env:=⟨PG,N,[F17_con N],[nm 0 [0,1] [1000000],nm 1 [0,1] [1000000],nm 2 [0,1,5] [6,1000000],nm 3 [0,1,5] [6,1000000],nm 4 [1,5] [6,1000000],nm 5 [5] [6,1000000]],kdL [],[],[],(GL N),tl0,[]⟩
noncomputable def F20_g(N:Nat)(v1:Int)(v2:List Nat):Option ((T10×Unit)):=
 ((F17 N v1).bind fun v3=>(some ((v1,v3,v2,0,()),())))
noncomputable def F20(N:Nat)(v1:Int)(v2:List Nat):Option ((T10×Unit)):=
 F20_g N v1 v2
theorem F20_t(N:Nat)(v1:Int)(v2:List Nat):evF2 (F20_E N) [] Tryz.f41 s8 a29 (v1,v2,())=F20 N v1 v2:=
 Eq.trans (b:=F20_g N v1 v2) (by kernel_rfl) rfl
noncomputable def F20_con(N:Nat):Con2:=⟨41,s8,a29,fun x=>F20 N x.1 x.2.1⟩
theorem F20_s(N:Nat):(F20_con N).Sound PG (GL N):=
 Con2.sound_of (c:=F20_con N) (E:=(F20_E N)) (idle:=[]) Tryz.func41 (by kernel_rfl) (by kernel_rfl) ⟨(allCons (F17_s N) allNil),allNil,rfl⟩ allNil (fun x y h=>(F20_t N x.1 x.2.1).trans h)
noncomputable def F21_E(N:Nat):Env:=⟨PG,N,[],[nm 0 [0,1] [1000000,1000001],nm 1 [0,1] [1000000,1000001],nm 2 [0] [1000000,1000001]],kdL [],[],[],(GL N),tl0,[]⟩
noncomputable def F21_g(N:Nat)(v1:T10)(v2:Int):Option ((Unit×T10×Unit)):=
 (some ((),(v1.1,v1.2.1,v1.2.2.1,v2,()),()))
noncomputable def F21(N:Nat)(v1:T10)(v2:Int):Option ((Unit×T10×Unit)):=
 F21_g N v1 v2
theorem F21_t(N:Nat)(v1:T10)(v2:Int):evF2 (F21_E N) [] Tryz.f42 s3 a27 (v1,v2,())=F21 N v1 v2:=
 Eq.trans (b:=F21_g N v1 v2) (by kernel_rfl) rfl
noncomputable def F21_con(N:Nat):Con2:=⟨42,s3,a27,fun x=>F21 N x.1 x.2.1⟩
theorem F21_s(N:Nat):(F21_con N).Sound PG (GL N):=
 Con2.sound_of (c:=F21_con N) (E:=(F21_E N)) (idle:=[]) Tryz.func42 (by kernel_rfl) (by kernel_rfl) ⟨allNil,allNil,rfl⟩ allNil (fun x y h=>(F21_t N x.1 x.2.1).trans h)
noncomputable def F22_E(N:Nat):Env:=⟨PG,N,[F17_con N],[nm 0 [0,1] [1000000],nm 1 [0,1] [1000000],nm 2 [0,1,5] [6,1000000],nm 3 [0,1,5] [6,1000000],nm 4 [1,5] [6,1000000],nm 5 [5] [6,1000000]],kdL [],[],[],(GL N),tl0,[]⟩
noncomputable def F22_g(N:Nat)(v1:Int)(v2:List Nat):Option ((T10×Unit)):=
 ((F17 N v1).bind fun v3=>(some ((v1,v3,v2,0,()),())))
noncomputable def F22(N:Nat)(v1:Int)(v2:List Nat):Option ((T10×Unit)):=
 F22_g N v1 v2
theorem F22_t(N:Nat)(v1:Int)(v2:List Nat):evF2 (F22_E N) [] Tryz.f43 s8 a29 (v1,v2,())=F22 N v1 v2:=
 Eq.trans (b:=F22_g N v1 v2) (by kernel_rfl) rfl
noncomputable def F22_con(N:Nat):Con2:=⟨43,s8,a29,fun x=>F22 N x.1 x.2.1⟩
theorem F22_s(N:Nat):(F22_con N).Sound PG (GL N):=
 Con2.sound_of (c:=F22_con N) (E:=(F22_E N)) (idle:=[]) Tryz.func43 (by kernel_rfl) (by kernel_rfl) ⟨(allCons (F17_s N) allNil),allNil,rfl⟩ allNil (fun x y h=>(F22_t N x.1 x.2.1).trans h)
noncomputable def F23_E(N:Nat):Env:=⟨PG,N,[],[nm 0 [0,1] [1000000,1000001],nm 1 [0,1] [1000000,1000001],nm 2 [0] [1000000,1000001]],kdL [],[],[],(GL N),tl0,[]⟩
noncomputable def F23_g(N:Nat)(v1:T10)(v2:Int):Option ((Unit×T10×Unit)):=
 (some ((),(v1.1,v1.2.1,v1.2.2.1,v2,()),()))
noncomputable def F23(N:Nat)(v1:T10)(v2:Int):Option ((Unit×T10×Unit)):=
 F23_g N v1 v2
theorem F23_t(N:Nat)(v1:T10)(v2:Int):evF2 (F23_E N) [] Tryz.f44 s3 a27 (v1,v2,())=F23 N v1 v2:=
 Eq.trans (b:=F23_g N v1 v2) (by kernel_rfl) rfl
noncomputable def F23_con(N:Nat):Con2:=⟨44,s3,a27,fun x=>F23 N x.1 x.2.1⟩
theorem F23_s(N:Nat):(F23_con N).Sound PG (GL N):=
 Con2.sound_of (c:=F23_con N) (E:=(F23_E N)) (idle:=[]) Tryz.func44 (by kernel_rfl) (by kernel_rfl) ⟨allNil,allNil,rfl⟩ allNil (fun x y h=>(F23_t N x.1 x.2.1).trans h)
noncomputable def F24_E(N:Nat):Env:=⟨PG,N,[],[nm 0 [0] [],nm 1 [0] []],kdL [(3,(.int .i64))],[],[],(GL N),tl0,[]⟩
noncomputable def F24_g(N:Nat)(v1:List Int):Option (((List Int)×Unit)):=
 ((lim (v1.length*8)).bind fun _=>(some (v1,())))
noncomputable def F24(N:Nat)(v1:List Int):Option (((List Int)×Unit)):=
 F24_g N v1
theorem F24_t(N:Nat)(v1:List Int):evF2 (F24_E N) [] Tryz.f46 [.k (.list (.int .i64))] [⟨[.row 3 (.int .i64)],[none]⟩] (v1,())=F24 N v1:=
 Eq.trans (b:=F24_g N v1) (by kernel_rfl) rfl
noncomputable def F24_con(N:Nat):Con2:=⟨46,[.k (.list (.int .i64))],[⟨[.row 3 (.int .i64)],[none]⟩],fun x=>F24 N x.1⟩
theorem F24_s(N:Nat):(F24_con N).Sound PG (GL N):=
 Con2.sound_of (c:=F24_con N) (E:=(F24_E N)) (idle:=[]) Tryz.func46 (by kernel_rfl) (by kernel_rfl) ⟨allNil,allNil,rfl⟩ allNil (fun x y h=>(F24_t N x.1).trans h)
noncomputable def F25_E(N:Nat):Env:=⟨PG,N,[F17_con N],[nm 0 [0,1,2] [1000000,1000001],nm 1 [0,1,2] [1000000,1000001],nm 2 [0,1,2,7] [8,1000000,1000001],nm 3 [0,1,2,7] [8,1000000,1000001],nm 4 [1,2,7] [8,1000000,1000001],nm 5 [2,7] [8,1000000,1000001],nm 6 [7] [8,1000000,1000001]],kdL [],[],[],(GL N),tl0,[]⟩
noncomputable def F25_g(N:Nat)(v1:Int)(v2:List Nat)(v3:List Int):Option ((T4×Unit)):=
 ((F17 N v1).bind fun v4=>(some ((v1,v4,v2,0,v3,()),())))
noncomputable def F25(N:Nat)(v1:Int)(v2:List Nat)(v3:List Int):Option ((T4×Unit)):=
 F25_g N v1 v2 v3
theorem F25_t(N:Nat)(v1:Int)(v2:List Nat)(v3:List Int):evF2 (F25_E N) [] Tryz.f45 s10 a5 (v1,v2,v3,())=F25 N v1 v2 v3:=
 Eq.trans (b:=F25_g N v1 v2 v3) (by kernel_rfl) rfl
noncomputable def F25_con(N:Nat):Con2:=⟨45,s10,a5,fun x=>F25 N x.1 x.2.1 x.2.2.1⟩
theorem F25_s(N:Nat):(F25_con N).Sound PG (GL N):=
 Con2.sound_of (c:=F25_con N) (E:=(F25_E N)) (idle:=[]) Tryz.func45 (by kernel_rfl) (by kernel_rfl) ⟨(allCons (F17_s N) allNil),allNil,rfl⟩ allNil (fun x y h=>(F25_t N x.1 x.2.1 x.2.2.1).trans h)
noncomputable def F26_E(N:Nat):Env:=⟨PG,N,[],[nm 0 [0,1] [1000000,1000001,1000002],nm 1 [0,1] [1000000,1000001,1000002],nm 2 [0] [1000000,1000001,1000002]],kdL [],[],[],(GL N),tl0,[]⟩
noncomputable def F26_g(N:Nat)(v1:T4)(v2:Int):Option ((Unit×T4×Unit)):=
 (some ((),(v1.1,v1.2.1,v1.2.2.1,v2,v1.2.2.2.2.1,()),()))
noncomputable def F26(N:Nat)(v1:T4)(v2:Int):Option ((Unit×T4×Unit)):=
 F26_g N v1 v2
theorem F26_t(N:Nat)(v1:T4)(v2:Int):evF2 (F26_E N) [] Tryz.f47 s2 a16 (v1,v2,())=F26 N v1 v2:=
 Eq.trans (b:=F26_g N v1 v2) (by kernel_rfl) rfl
noncomputable def F26_con(N:Nat):Con2:=⟨47,s2,a16,fun x=>F26 N x.1 x.2.1⟩
theorem F26_s(N:Nat):(F26_con N).Sound PG (GL N):=
 Con2.sound_of (c:=F26_con N) (E:=(F26_E N)) (idle:=[]) Tryz.func47 (by kernel_rfl) (by kernel_rfl) ⟨allNil,allNil,rfl⟩ allNil (fun x y h=>(F26_t N x.1 x.2.1).trans h)
noncomputable def F27_E(N:Nat):Env:=⟨PG,N,[],[nm 0 [0] [1000000],nm 1 [1] [1,1000000]],kdL [],[],[],(GL N),tl0,[]⟩
noncomputable def F27_g(N:Nat)(v1:List Int):Option (((((List Int)×Unit)×Unit)×Unit)):=
 (some (((v1,()),()),()))
noncomputable def F27(N:Nat)(v1:List Int):Option (((((List Int)×Unit)×Unit)×Unit)):=
 F27_g N v1
theorem F27_t(N:Nat)(v1:List Int):evF2 (F27_E N) [] Tryz.f49 [.row 3 (.int .i64)] [⟨s20,[none]⟩] (v1,())=F27 N v1:=
 Eq.trans (b:=F27_g N v1) (by kernel_rfl) rfl
noncomputable def F27_con(N:Nat):Con2:=⟨49,[.row 3 (.int .i64)],[⟨s20,[none]⟩],fun x=>F27 N x.1⟩
theorem F27_s(N:Nat):(F27_con N).Sound PG (GL N):=
 Con2.sound_of (c:=F27_con N) (E:=(F27_E N)) (idle:=[]) Tryz.func49 (by kernel_rfl) (by kernel_rfl) ⟨allNil,allNil,rfl⟩ allNil (fun x y h=>(F27_t N x.1).trans h)
noncomputable def F28_E(N:Nat):Env:=⟨PG,N,[],[nm 0 [0,1] [1000000,1000001,1000002,1000003,1000004]],kdL [],[],[],(GL N),tl0,[]⟩
noncomputable def F28_g(N:Nat)(v1:T4)(v2:((List Int)×Unit)):Option (T9):=
 some ((v1.1,v1.2.1,v1.2.2.1,v1.2.2.2.1,(),()),(v2.1,()),())
noncomputable def F28(N:Nat)(v1:T4)(v2:((List Int)×Unit)):Option (T9):=
 F28_g N v1 v2
theorem F28_t(N:Nat)(v1:T4)(v2:((List Int)×Unit)):evF2 (F28_E N) [] Tryz.f89 s16 a40 (v1,v2,())=F28 N v1 v2:=
 Eq.trans (b:=F28_g N v1 v2) (by kernel_rfl) rfl
noncomputable def F28_con(N:Nat):Con2:=⟨89,s16,a40,fun x=>F28 N x.1 x.2.1⟩
theorem F28_s(N:Nat):(F28_con N).Sound PG (GL N):=
 Con2.sound_of (c:=F28_con N) (E:=(F28_E N)) (idle:=[]) Tryz.func89 (by kernel_rfl) (by kernel_rfl) ⟨allNil,allNil,rfl⟩ allNil (fun x y h=>(F28_t N x.1 x.2.1).trans h)
noncomputable def F29_E(N:Nat):Env:=⟨PG,N,[F17_con N],[nm 0 [0,1,2] [1000000,1000001,1000002,1000003],nm 1 [0,1,2] [1000000,1000001,1000002,1000003],nm 2 [0,1,2,7] [12,1000000,1000001,1000002,1000003],nm 3 [0,1,2,7] [12,1000000,1000001,1000002,1000003],nm 4 [1,2,7] [12,1000000,1000001,1000002,1000003],nm 5 [1,2,7] [12,1000000,1000001,1000002,1000003],nm 6 [1,7,35,36,37] [12,1000000,1000001,1000002,1000003],nm 7 [1,7,35,36,37] [12,1000000,1000001,1000002,1000003],nm 8 [1,7,9,35,36,37] [12,1000000,1000001,1000002,1000003],nm 9 [1,7,35,36,37] [12,1000000,1000001,1000002,1000003],nm 10 [1,7] [12,1000000,1000001,1000002,1000003],ng N 11 [1,7,61] [12,1000000,1000001,1000002,1000003],nm 12 [1,7,10] [12,1000000,1000001,1000002,1000003],nm 13 [1,7,10,69] [12,1000000,1000001,1000002,1000003],ng N 14 [7,10] [12,1000000,1000001,1000002,1000003],nm 15 [7,10] [12,82,1000000,1000001,1000002,1000003],nm 16 [7,86,87] [12,82,1000000,1000001,1000002,1000003],nm 17 [7,86,87] [12,82,1000000,1000001,1000002,1000003],nm 18 [7,11,86,87] [12,82,1000000,1000001,1000002,1000003],nm 19 [7,86,87] [12,82,1000000,1000001,1000002,1000003],ng N 20 [7] [12,82,1000000,1000001,1000002,1000003]],kdL [(3,(.int .i64))],[F28_con N],[],(GL N),tl0,[(1000006, .unit)]⟩
noncomputable def F29_g4(N:Nat)(v5:T9):Option ((T4×Unit)):=
 (some ((v5.1.1,v5.1.2.1,v5.1.2.2.1,v5.1.2.2.2.1,v5.2.1.1,()),()))
noncomputable def F29_j4(N:Nat)(v5:T9):Option ((T4×Unit)):=
 gate N (F29_g4 N v5)
noncomputable def F29_g1(N:Nat)(v5:T9)(c4:T9→Option ((T4×Unit))):Option ((T4×Unit)):=
 (c4 v5)
noncomputable def F29_j1(N:Nat)(v5:T9):Option ((T4×Unit)):=
 gate N (F29_g1 N v5 (F29_j4 N))
noncomputable def F29_g3(N:Nat)(v6:Int)(v5:T9)(r3:Int→(List Int)→Option ((T4×Unit)))(v9:Int)(v10:List Int):Option ((T4×Unit)):=
 (bif(decide ((v9:Int)<v6))then((chk v9 v10.length).bind fun v11=>((r3 (IntKind.i64.wrap (v9+1)) (v10.set v11 (IntKind.i64.wrap ((IntKind.i64.wrap (v9+1))*v5.1.2.1))))))else(gate N (some ((v5.1.1,v5.1.2.1,v5.1.2.2.1,v5.1.2.2.2.1,v10,()),()))))
noncomputable def F29_l3(N:Nat):Nat→Int→T9→Int→(List Int)→Option ((T4×Unit))
 |0,_,_,_,_=>none
 |n+1,v6,v5,v9,v10=>F29_g3 N v6 v5 (F29_l3 N n v6 v5) v9 v10
noncomputable def F29_g2(N:Nat)(v5:T9)(c3:Int→T9→Int→(List Int)→Option ((T4×Unit)))(v6:Int):Option ((T4×Unit)):=
 (mkn v6 v6 8).bind fun v7=>((c3 v6 v5 0 (List.replicate v7 (0:Int))))
noncomputable def F29_j2(N:Nat)(v5:T9)(v6:Int):Option ((T4×Unit)):=
 gate N (F29_g2 N v5 (F29_l3 N N) v6)
noncomputable def F29_g0(N:Nat)(v5:T9)(c1:T9→Option ((T4×Unit)))(c2:T9→Int→Option ((T4×Unit)))(c4:T9→Option ((T4×Unit)))(r0:Option ((T4×Unit))):Option ((T4×Unit)):=
 (bif Nat.ble 1 v5.2.1.1.length then(c1 v5)else(agree (gate N (bif(decide (((v5.1.2.2.1.length:Int):Int)>0))then(bif(decide ((v5.1.2.1:Int)>0))then(if v5.1.2.1=0 then none else(c2 v5 (IntKind.i64.wrap (Int.tdiv (v5.1.2.2.1.length:Int) v5.1.2.1))))else(c2 v5 0))else(c4 v5))) (c1 v5)))
noncomputable def F29_l0(N:Nat):Nat→T9→Option ((T4×Unit))
 |0,_=>none
 |n+1,v5=>F29_g0 N v5 (F29_j1 N) (F29_j2 N) (F29_j4 N) (F29_l0 N n v5)
noncomputable def F29_g(N:Nat)(v1:Int)(v2:List Nat)(v3:((((List Int)×Unit)×Unit)×Unit))(c0:T9→Option ((T4×Unit))):Option ((T4×Unit)):=
 ((F17 N v1).bind fun v4=>((F28 N (v1,v4,v2,0,([]:List Int),()) (v3.1.1.1,())).bind fun v5=>((c0 v5))))
noncomputable def F29(N:Nat)(v1:Int)(v2:List Nat)(v3:((((List Int)×Unit)×Unit)×Unit)):Option ((T4×Unit)):=
 F29_g N v1 v2 v3 (F29_l0 N N)
noncomputable def q8(N:Nat):=kEnd2 (F29_E N) [] Tryz.f48.results.toList a5 [.dead, .own .float 1000000, .bsl 1000001 1]
noncomputable def F29_e4(N:Nat)(v5:T9):=
 gate N (evC (F29_E N) (c48 [1,1,1,1,1,1,1]) ⟨[(7, .ref 12 0)],[(12, .box [.pv (.int .i64) v5.1.1, .pv (.int .i64) v5.1.2.1, .own .float 1000000, .pv (.int .i64) v5.1.2.2.2.1, .own (.int .i64) 1000003]),(82, .gone),(1000000, .arr 65 .float v5.1.2.2.1),(1000001, .box [.func 89 [.ref 1000002 0]]),(1000002, .box [.own (.int .i64) 1000003]),(1000003, .arr 3 (.int .i64) v5.2.1.1)],[]⟩ (q8 N))
noncomputable def q9(N:Nat):=kq (F29_E N) (c48 [1,1,1,1,1,1,1]) (q8 N)
noncomputable def F29_e1(N:Nat)(v5:T9):=
 gate N (evC (F29_E N) (c48 [1,1,1,1,1,1,0,1]) ⟨[(1, .own .float 1000000),(7, .ref 12 0),(61, .pv .bool false)],[(12, .box [.pv (.int .i64) v5.1.1, .pv (.int .i64) v5.1.2.1, .own .float 1000000, .pv (.int .i64) v5.1.2.2.2.1, .own (.int .i64) 1000003]),(1000000, .arr 65 .float v5.1.2.2.1),(1000001, .box [.func 89 [.ref 1000002 0]]),(1000002, .box [.own (.int .i64) 1000003]),(1000003, .arr 3 (.int .i64) v5.2.1.1)],[]⟩ (q9 N))
noncomputable def F29_e3(N n:Nat)(v6:Int)(v5:T9)(v9:Int)(v10:List Int):=
 lq (F29_E N) (c48 [1,1,1,1,1,1,0,1,0,1,1,1,1,0,0]) n ⟨[(7, .ref 12 0),(86, .pv (.int .i64) v6),(87, .pv (.int .i64) v9)],[(12, .box [.pv (.int .i64) v5.1.1, .pv (.int .i64) v5.1.2.1, .own .float 1000000, .pv (.int .i64) v5.1.2.2.2.1, .own (.int .i64) 82]),(82, .arr 3 (.int .i64) v10),(1000000, .arr 65 .float v5.1.2.2.1),(1000001, .box [.func 89 [.ref 1000002 0]]),(1000002, .box [.own (.int .i64) 1000003]),(1000003, .arr 3 (.int .i64) v5.2.1.1)],[]⟩ (kBlock 2 (q9 N))
noncomputable def F29_e2(N:Nat)(v5:T9)(v6:Int):=
 gate N (evC (F29_E N) (c48 [1,1,1,1,1,1,0,1,0,1,1]) ⟨[(7, .ref 12 0),(10, .pv (.int .i64) v6)],[(12, .box [.pv (.int .i64) v5.1.1, .pv (.int .i64) v5.1.2.1, .own .float 1000000, .pv (.int .i64) v5.1.2.2.2.1, .own (.int .i64) 1000003]),(1000000, .arr 65 .float v5.1.2.2.1),(1000001, .box [.func 89 [.ref 1000002 0]]),(1000002, .box [.own (.int .i64) 1000003]),(1000003, .arr 3 (.int .i64) v5.2.1.1)],[]⟩ (q9 N))
noncomputable def F29_e0(N n:Nat)(v5:T9):=
 lq (F29_E N) (c48 [1,1,1,1,1,0,1,0,0]) n ⟨[(1, .own .float 1000000),(7, .ref 12 0),(35, .bsl 1000001 1),(36, .pv (.int .i64) 1),(37, .pv (.int .i64) 1)],[(12, .box [.pv (.int .i64) v5.1.1, .pv (.int .i64) v5.1.2.1, .own .float 1000000, .pv (.int .i64) v5.1.2.2.2.1, .own (.int .i64) 1000003]),(1000000, .arr 65 .float v5.1.2.2.1),(1000001, .box [.func 89 [.ref 1000002 0]]),(1000002, .box [.own (.int .i64) 1000003]),(1000003, .arr 3 (.int .i64) v5.2.1.1)],[]⟩ (kBlock 0 (kq (F29_E N) (c48 [1,1,1,1,1,1]) (q8 N)))
theorem F29_t4(N:Nat)(v5:T9):F29_e4 N v5=F29_j4 N v5:=by
 exact(congrArg (gate N) (show _=F29_g4 N v5 from by kernel_rfl)).trans (by rfl)
theorem F29_t1(N:Nat)(v5:T9):F29_e1 N v5=F29_j1 N v5:=by
 have h4:(F29_e4 N)=(F29_j4 N):=by funext v5;exact F29_t4 N v5
 exact(congrArg (gate N) (show _=F29_g1 N v5 (F29_e4 N)from by kernel_rfl)).trans (by rw[h4];rfl)
theorem F29_t3(N:Nat):∀(n:Nat) (v6:Int) (v5:T9) (v9:Int) (v10:List Int),F29_e3 N n v6 v5 v9 v10=F29_l3 N n v6 v5 v9 v10
 |0,_,_,_,_=>rfl
 |n+1,v6,v5,v9,v10=>by
  have h:F29_e3 N n v6 v5=F29_l3 N n v6 v5:=by funext v9 v10;exact F29_t3 N n v6 v5 v9 v10
  exact Eq.trans (b:=F29_g3 N v6 v5 (F29_e3 N n v6 v5) v9 v10) (by kernel_rfl) (by rw[h];rfl)
theorem F29_t2(N:Nat)(v5:T9)(v6:Int):F29_e2 N v5 v6=F29_j2 N v5 v6:=by
 have h3:(F29_e3 N N)=(F29_l3 N N):=by funext v6 v5 v9 v10;exact F29_t3 N N v6 v5 v9 v10
 exact(congrArg (gate N) (show _=F29_g2 N v5 (F29_e3 N N) v6 from by kernel_rfl)).trans (by rw[h3];rfl)
theorem F29_t0(N:Nat):∀(n:Nat) (v5:T9),F29_e0 N n v5=F29_l0 N n v5
 |0,_=>rfl
 |n+1,v5=>by
  have h1:(F29_e1 N)=(F29_j1 N):=by funext v5;exact F29_t1 N v5
  have h2:(F29_e2 N)=(F29_j2 N):=by funext v5 v6;exact F29_t2 N v5 v6
  have h4:(F29_e4 N)=(F29_j4 N):=by funext v5;exact F29_t4 N v5
  have h:F29_e0 N n v5=F29_l0 N n v5:=by exact F29_t0 N n v5
  exact Eq.trans (b:=F29_g0 N v5 (F29_e1 N) (F29_e2 N) (F29_e4 N) (F29_e0 N n v5)) (by kernel_rfl) (by rw[h1,h2,h4,h];rfl)
theorem F29_t(N:Nat)(v1:Int)(v2:List Nat)(v3:((((List Int)×Unit)×Unit)×Unit)):evF2 (F29_E N) [] Tryz.f48 [.k (.int .i64), .row 65 .float, .bsl s20] a5 (v1,v2,v3,())=F29 N v1 v2 v3:=by
 have h0:(F29_e0 N N)=(F29_l0 N N):=by funext v5;exact F29_t0 N N v5
 exact Eq.trans (b:=F29_g N v1 v2 v3 (F29_e0 N N)) (by kernel_rfl) (by rw[h0];rfl)
noncomputable def F29_con(N:Nat):Con2:=⟨48,[.k (.int .i64), .row 65 .float, .bsl s20],a5,fun x=>F29 N x.1 x.2.1 x.2.2.1⟩
theorem F29_s(N:Nat):(F29_con N).Sound PG (GL N):=
 Con2.sound_of (c:=F29_con N) (E:=(F29_E N)) (idle:=[]) Tryz.func48 (by kernel_rfl) (by kernel_rfl) ⟨(allCons (F17_s N) allNil),(allCons (F28_s N) allNil),rfl⟩ allNil (fun x y h=>(F29_t N x.1 x.2.1 x.2.2.1).trans h)
noncomputable def F30_E(N:Nat):Env:=⟨PG,N,[],[nm 0 [0,1] [1000000,1000001,1000002],nm 1 [0,1] [1000000,1000001,1000002],nm 2 [0] [1000000,1000001,1000002]],kdL [],[],[],(GL N),tl0,[]⟩
noncomputable def F30_g(N:Nat)(v1:T4)(v2:Int):Option ((Unit×T4×Unit)):=
 (some ((),(v1.1,v1.2.1,v1.2.2.1,v2,v1.2.2.2.2.1,()),()))
noncomputable def F30(N:Nat)(v1:T4)(v2:Int):Option ((Unit×T4×Unit)):=
 F30_g N v1 v2
theorem F30_t(N:Nat)(v1:T4)(v2:Int):evF2 (F30_E N) [] Tryz.f50 s2 a16 (v1,v2,())=F30 N v1 v2:=
 Eq.trans (b:=F30_g N v1 v2) (by kernel_rfl) rfl
noncomputable def F30_con(N:Nat):Con2:=⟨50,s2,a16,fun x=>F30 N x.1 x.2.1⟩
theorem F30_s(N:Nat):(F30_con N).Sound PG (GL N):=
 Con2.sound_of (c:=F30_con N) (E:=(F30_E N)) (idle:=[]) Tryz.func50 (by kernel_rfl) (by kernel_rfl) ⟨allNil,allNil,rfl⟩ allNil (fun x y h=>(F30_t N x.1 x.2.1).trans h)
noncomputable def F31_E(N:Nat):Env:=⟨PG,N,[F17_con N],[nm 0 [0,1,2] [1000000,1000001],nm 1 [0,1,2] [1000000,1000001],nm 2 [0,1,2,7] [8,1000000,1000001],nm 3 [0,1,2,7] [8,1000000,1000001],nm 4 [1,2,7] [8,1000000,1000001],nm 5 [2,7] [8,1000000,1000001],nm 6 [7] [8,1000000,1000001]],kdL [],[],[],(GL N),tl0,[]⟩
noncomputable def F31_g(N:Nat)(v1:Int)(v2:List Nat)(v3:List Int):Option ((T4×Unit)):=
 ((F17 N v1).bind fun v4=>(some ((v1,v4,v2,0,v3,()),())))
noncomputable def F31(N:Nat)(v1:Int)(v2:List Nat)(v3:List Int):Option ((T4×Unit)):=
 F31_g N v1 v2 v3
theorem F31_t(N:Nat)(v1:Int)(v2:List Nat)(v3:List Int):evF2 (F31_E N) [] Tryz.f51 s10 a5 (v1,v2,v3,())=F31 N v1 v2 v3:=
 Eq.trans (b:=F31_g N v1 v2 v3) (by kernel_rfl) rfl
noncomputable def F31_con(N:Nat):Con2:=⟨51,s10,a5,fun x=>F31 N x.1 x.2.1 x.2.2.1⟩
theorem F31_s(N:Nat):(F31_con N).Sound PG (GL N):=
 Con2.sound_of (c:=F31_con N) (E:=(F31_E N)) (idle:=[]) Tryz.func51 (by kernel_rfl) (by kernel_rfl) ⟨(allCons (F17_s N) allNil),allNil,rfl⟩ allNil (fun x y h=>(F31_t N x.1 x.2.1 x.2.2.1).trans h)
noncomputable def F32_E(N:Nat):Env:=⟨PG,N,[],[nm 0 [0,1] [1000000,1000001,1000002],nm 1 [0,1] [1000000,1000001,1000002],nm 2 [0] [1000000,1000001,1000002]],kdL [],[],[],(GL N),tl0,[]⟩
noncomputable def F32_g(N:Nat)(v1:T4)(v2:Int):Option ((Unit×T4×Unit)):=
 (some ((),(v1.1,v1.2.1,v1.2.2.1,v2,v1.2.2.2.2.1,()),()))
noncomputable def F32(N:Nat)(v1:T4)(v2:Int):Option ((Unit×T4×Unit)):=
 F32_g N v1 v2
theorem F32_t(N:Nat)(v1:T4)(v2:Int):evF2 (F32_E N) [] Tryz.f52 s2 a16 (v1,v2,())=F32 N v1 v2:=
 Eq.trans (b:=F32_g N v1 v2) (by kernel_rfl) rfl
noncomputable def F32_con(N:Nat):Con2:=⟨52,s2,a16,fun x=>F32 N x.1 x.2.1⟩
theorem F32_s(N:Nat):(F32_con N).Sound PG (GL N):=
 Con2.sound_of (c:=F32_con N) (E:=(F32_E N)) (idle:=[]) Tryz.func52 (by kernel_rfl) (by kernel_rfl) ⟨allNil,allNil,rfl⟩ allNil (fun x y h=>(F32_t N x.1 x.2.1).trans h)
noncomputable def F33_E(N:Nat):Env:=⟨PG,N,[],[nm 0 [0] [],nm 1 [0] [],nm 2 [0,3] [],(3,⟨[(3,23,(.list (.int .i64)),90300)],[],[],[],[],[3,6,7,8],[90300],none⟩),nm 4 [3,6,7,8] [90300],nm 5 [3,5,6,7,8] [90300],nm 6 [3,6,7,8] [16],nm 7 [3] [90300]],kdL [(23,(.list (.int .i64)))],[F24_con N],[],(GL N),tl0,[]⟩
noncomputable def F33_g0(N:Nat)(v1:T22)(r0:Int→T22→Option ((T22×Unit)))(v4:Int)(v5:T22):Option ((T22×Unit)):=
 (bif(decide ((v4:Int)<(v1.length:Int)))then((nth v1 v4).bind fun v6=>((F24 N v6).bind fun v7=>(lim ((v5.length+([v7.1]:List (List Int)).length)*24)).bind fun _=>((r0 (IntKind.i64.wrap (v4+1)) (v5++([v7.1]:List (List Int)))))))else(some (v5,())))
noncomputable def F33_l0(N:Nat):Nat→T22→Int→T22→Option ((T22×Unit))
 |0,_,_,_=>none
 |n+1,v1,v4,v5=>F33_g0 N v1 (F33_l0 N n v1) v4 v5
noncomputable def F33_g(N:Nat)(v1:T22)(c0:T22→Int→T22→Option ((T22×Unit))):Option ((T22×Unit)):=
 ((c0 v1 0 ([]:List (List Int))))
noncomputable def F33(N:Nat)(v1:T22):Option ((T22×Unit)):=
 F33_g N v1 (F33_l0 N N)
noncomputable def F33_e0(N n:Nat)(v1:T22)(v4:Int)(v5:T22):=
 lq (F33_E N) (c54 [1,1,0,1,0,0]) n ⟨[(3, .own (.list (.int .i64)) 90300),(6, .pv (.list (.list (.int .i64))) v1),(7, .pv (.int .i64) (v1.length:Int)),(8, .pv (.int .i64) v4)],[(90300, .arr 23 (.list (.int .i64)) v5)],[]⟩ (kBlock 0 (kq (F33_E N) (c54 [1,1,1]) (kEnd2 (F33_E N) [] Tryz.f54.results.toList [⟨[.row 23 (.list (.int .i64))],[none]⟩] [.dead])))
theorem F33_t0(N:Nat):∀(n:Nat) (v1:T22) (v4:Int) (v5:T22),F33_e0 N n v1 v4 v5=F33_l0 N n v1 v4 v5
 |0,_,_,_=>rfl
 |n+1,v1,v4,v5=>by
  have h:F33_e0 N n v1=F33_l0 N n v1:=by funext v4 v5;exact F33_t0 N n v1 v4 v5
  exact Eq.trans (b:=F33_g0 N v1 (F33_e0 N n v1) v4 v5) (by kernel_rfl) (by rw[h];rfl)
theorem F33_t(N:Nat)(v1:T22):evF2 (F33_E N) [] Tryz.f54 [.k (.list (.list (.int .i64)))] [⟨[.row 23 (.list (.int .i64))],[none]⟩] (v1,())=F33 N v1:=by
 have h0:(F33_e0 N N)=(F33_l0 N N):=by funext v1 v4 v5;exact F33_t0 N N v1 v4 v5
 exact Eq.trans (b:=F33_g N v1 (F33_e0 N N)) (by kernel_rfl) (by rw[h0];rfl)
noncomputable def F33_con(N:Nat):Con2:=⟨54,[.k (.list (.list (.int .i64)))],[⟨[.row 23 (.list (.int .i64))],[none]⟩],fun x=>F33 N x.1⟩
theorem F33_s(N:Nat):(F33_con N).Sound PG (GL N):=
 Con2.sound_of (c:=F33_con N) (E:=(F33_E N)) (idle:=[]) Tryz.func54 (by kernel_rfl) (by kernel_rfl) ⟨allNil,(allCons (F24_s N) allNil),rfl⟩ allNil (fun x y h=>(F33_t N x.1).trans h)
noncomputable def F34_E(N:Nat):Env:=⟨PG,N,[F17_con N],[nm 0 [0,1,2] [1000000,1000001],nm 1 [0,1,2] [1000000,1000001],nm 2 [0,1,2,7] [8,1000000,1000001],nm 3 [0,1,2,7] [8,1000000,1000001],nm 4 [1,2,7] [8,1000000,1000001],nm 5 [2,7] [8,1000000,1000001],nm 6 [7] [8,1000000,1000001]],kdL [],[],[],(GL N),tl0,[]⟩
noncomputable def F34_g(N:Nat)(v1:Int)(v2:List Nat)(v3:T22):Option ((T7×Unit)):=
 ((F17 N v1).bind fun v4=>(some ((v1,v4,v2,0,v3,()),())))
noncomputable def F34(N:Nat)(v1:Int)(v2:List Nat)(v3:T22):Option ((T7×Unit)):=
 F34_g N v1 v2 v3
theorem F34_t(N:Nat)(v1:Int)(v2:List Nat)(v3:T22):evF2 (F34_E N) [] Tryz.f53 [.k (.int .i64), .row 65 .float, .row 23 (.list (.int .i64))] a45 (v1,v2,v3,())=F34 N v1 v2 v3:=
 Eq.trans (b:=F34_g N v1 v2 v3) (by kernel_rfl) rfl
noncomputable def F34_con(N:Nat):Con2:=⟨53,[.k (.int .i64), .row 65 .float, .row 23 (.list (.int .i64))],a45,fun x=>F34 N x.1 x.2.1 x.2.2.1⟩
theorem F34_s(N:Nat):(F34_con N).Sound PG (GL N):=
 Con2.sound_of (c:=F34_con N) (E:=(F34_E N)) (idle:=[]) Tryz.func53 (by kernel_rfl) (by kernel_rfl) ⟨(allCons (F17_s N) allNil),allNil,rfl⟩ allNil (fun x y h=>(F34_t N x.1 x.2.1 x.2.2.1).trans h)
noncomputable def F35_E(N:Nat):Env:=⟨PG,N,[],[nm 0 [0,1] [1000000,1000001,1000002],nm 1 [0,1] [1000000,1000001,1000002],nm 2 [0] [1000000,1000001,1000002]],kdL [],[],[],(GL N),tl0,[]⟩
noncomputable def F35_g(N:Nat)(v1:T7)(v2:Int):Option ((Unit×T7×Unit)):=
 (some ((),(v1.1,v1.2.1,v1.2.2.1,v2,v1.2.2.2.2.1,()),()))
noncomputable def F35(N:Nat)(v1:T7)(v2:Int):Option ((Unit×T7×Unit)):=
 F35_g N v1 v2
theorem F35_t(N:Nat)(v1:T7)(v2:Int):evF2 (F35_E N) [] Tryz.f55 s17 a44 (v1,v2,())=F35 N v1 v2:=
 Eq.trans (b:=F35_g N v1 v2) (by kernel_rfl) rfl
noncomputable def F35_con(N:Nat):Con2:=⟨55,s17,a44,fun x=>F35 N x.1 x.2.1⟩
theorem F35_s(N:Nat):(F35_con N).Sound PG (GL N):=
 Con2.sound_of (c:=F35_con N) (E:=(F35_E N)) (idle:=[]) Tryz.func55 (by kernel_rfl) (by kernel_rfl) ⟨allNil,allNil,rfl⟩ allNil (fun x y h=>(F35_t N x.1 x.2.1).trans h)
noncomputable def F36_E(N:Nat):Env:=⟨PG,N,[],[nm 0 [] [],nm 1 [] []],kdL [],[],[],(GL N),tl0,[]⟩
noncomputable def F36_g(N:Nat):Option ((T16×Unit)):=
 (some ((0,([]:List Ce),0,()),()))
noncomputable def F36(N:Nat):Option ((T16×Unit)):=
 F36_g N
theorem F36_t(N:Nat):evF2 (F36_E N) [] Tryz.f56 [] [⟨[.box [.k (.int .i64), .row 50 .any, .k (.int .i64)]],[]⟩] (())=F36 N:=
 Eq.trans (b:=F36_g N) (by kernel_rfl) rfl
noncomputable def F36_con(N:Nat):Con2:=⟨56,[],[⟨[.box [.k (.int .i64), .row 50 .any, .k (.int .i64)]],[]⟩],fun x=>F36 N⟩
theorem F36_s(N:Nat):(F36_con N).Sound PG (GL N):=
 Con2.sound_of (c:=F36_con N) (E:=(F36_E N)) (idle:=[]) Tryz.func56 (by kernel_rfl) (by kernel_rfl) ⟨allNil,allNil,rfl⟩ allNil (fun x y h=>(F36_t N).trans h)
noncomputable def F37_E(N:Nat):Env:=⟨PG,N,[],[nm 0 [0,1] [1000000,1000001],nm 1 [0,1] [1000000,1000001],nm 2 [0] [1000000,1000001]],kdL [],[],[],(GL N),tl0,[]⟩
noncomputable def F37_g(N:Nat)(v1:T16)(v2:Int):Option ((Unit×T16×Unit)):=
 (some ((),(v1.1,v1.2.1,v2,()),()))
noncomputable def F37(N:Nat)(v1:T16)(v2:Int):Option ((Unit×T16×Unit)):=
 F37_g N v1 v2
theorem F37_t(N:Nat)(v1:T16)(v2:Int):evF2 (F37_E N) [] Tryz.f57 s5 a34 (v1,v2,())=F37 N v1 v2:=
 Eq.trans (b:=F37_g N v1 v2) (by kernel_rfl) rfl
noncomputable def F37_con(N:Nat):Con2:=⟨57,s5,a34,fun x=>F37 N x.1 x.2.1⟩
theorem F37_s(N:Nat):(F37_con N).Sound PG (GL N):=
 Con2.sound_of (c:=F37_con N) (E:=(F37_E N)) (idle:=[]) Tryz.func57 (by kernel_rfl) (by kernel_rfl) ⟨allNil,allNil,rfl⟩ allNil (fun x y h=>(F37_t N x.1 x.2.1).trans h)
noncomputable def F38_E(N:Nat):Env:=⟨PG,N,[],[nm 0 [0] [],nm 1 [0] []],kdL [],[],[],(GL N),tl0,[]⟩
noncomputable def F38_g(N:Nat)(v1:T14):Option ((Int×Unit)):=
 (some (v1.1,()))
noncomputable def F38(N:Nat)(v1:T14):Option ((Int×Unit)):=
 F38_g N v1
theorem F38_t(N:Nat)(v1:T14):evF2 (F38_E N) [] Tryz.f155 [.lref p4] a32 (v1,())=F38 N v1:=
 Eq.trans (b:=F38_g N v1) (by kernel_rfl) rfl
noncomputable def F38_con(N:Nat):Con2:=⟨155,[.lref p4],a32,fun x=>F38 N x.1⟩
theorem F38_s(N:Nat):(F38_con N).Sound PG (GL N):=
 Con2.sound_of (c:=F38_con N) (E:=(F38_E N)) (idle:=[]) Tryz.func155 (by kernel_rfl) (by kernel_rfl) ⟨allNil,allNil,rfl⟩ allNil (fun x y h=>(F38_t N x.1).trans h)
noncomputable def F39_g2(N:Nat)(self:T12→Option ((Int×Unit)))(v1:T12)(v42:Int)(r0:Int→Int→Option ((Int×Unit)))(v81:Int):Option ((Int×Unit)):=
 (r0 v81 (IntKind.i64.wrap (v42+1)))
noncomputable def F39_j2(N:Nat)(self:T12→Option ((Int×Unit)))(r0:Int→Int→Option ((Int×Unit)))(v1:T12)(v42 v81:Int):Option ((Int×Unit)):=
 gate N (F39_g2 N self v1 v42 r0 v81)
noncomputable def F39_g1(N:Nat)(self:T12→Option ((Int×Unit)))(v1:T12)(v41 v42:Int)(c2 r0:Int→Int→Option ((Int×Unit)))(v80:Int):Option ((Int×Unit)):=
 (bif(v80==2)then(bif(v41==3)then(c2 v42 4)else(bif(decide ((v80:Int)>v41))then(c2 v42 v80)else(c2 v42 v41)))else(bif(v80==3)then(bif(v41==2)then(c2 v42 4)else(bif(decide ((v80:Int)>v41))then(c2 v42 v80)else(c2 v42 v41)))else(bif(decide ((v80:Int)>v41))then(c2 v42 v80)else(c2 v42 v41))))
noncomputable def F39_j1(N:Nat)(self:T12→Option ((Int×Unit)))(r0:Int→Int→Option ((Int×Unit)))(v1:T12)(v41 v42 v80:Int):Option ((Int×Unit)):=
 gate N (F39_g1 N self v1 v41 v42 (F39_j2 N self r0 v1) r0 v80)
noncomputable def F39_g0(N:Nat)(self:T12→Option ((Int×Unit)))(v1:T12)(c1:Int→Int→Int→Option ((Int×Unit)))(r0:Int→Int→Option ((Int×Unit)))(v41 v42:Int):Option ((Int×Unit)):=
 (bif(decide ((v42:Int)<(v1.2.1.length:Int)))then((nth v1.2.1 v42).bind fun v43=>((isT 104 v43).bind fun v44=>(bif v44 then((asT .unit 104 v43).bind fun v45=>none)else((isT 105 v43).bind fun v46=>(bif v46 then((asT .unit 105 v43).bind fun v47=>none)else((isT 72 v43).bind fun v48=>(bif v48 then((asT .any 72 v43).bind fun v49=>(ptrD p0 v49).bind fun v50=>(F38 N v50.1).bind fun v51=>(c1 v41 v42 v51.1))else((isT 75 v43).bind fun v52=>(bif v52 then((asT .any 75 v43).bind fun v53=>(ptrD (.pair p0 .unit) v53).bind fun v54=>(F38 N v54.1.1).bind fun v55=>(c1 v41 v42 v55.1))else((isT 78 v43).bind fun v56=>(bif v56 then((asT .any 78 v43).bind fun v57=>(ptrD (.pair p0 .unit) v57).bind fun v58=>(F38 N v58.1.1).bind fun v59=>(c1 v41 v42 v59.1))else((isT 81 v43).bind fun v60=>(bif v60 then((asT .any 81 v43).bind fun v61=>(ptrD p1 v61).bind fun v62=>(F38 N v62.1.1.1).bind fun v63=>(c1 v41 v42 v63.1))else((isT 85 v43).bind fun v64=>(bif v64 then((asT .any 85 v43).bind fun v65=>(ptrD p1 v65).bind fun v66=>(F38 N v66.1.1.1).bind fun v67=>(c1 v41 v42 v67.1))else((isT 91 v43).bind fun v68=>(bif v68 then((asT .any 91 v43).bind fun v69=>(ptrD p1 v69).bind fun v70=>(F38 N v70.1.1.1).bind fun v71=>(c1 v41 v42 v71.1))else((isT 94 v43).bind fun v72=>(bif v72 then((asT .any 94 v43).bind fun v73=>(ptrD p3 v73).bind fun v74=>(F38 N v74.1.1.1).bind fun v75=>(c1 v41 v42 v75.1))else((isT 98 v43).bind fun v76=>(bif v76 then((asT .any 98 v43).bind fun v77=>(ptrD p2 v77).bind fun v78=>(self v78).bind fun v79=>(c1 v41 v42 v79.1))else none)))))))))))))))))))))else(some (v41,())))
noncomputable def F39_l0(N:Nat)(self:T12→Option ((Int×Unit))):Nat→T12→Int→Int→Option ((Int×Unit))
 |0,_,_,_=>none
 |n+1,v1,v41,v42=>F39_g0 N self v1 (F39_j1 N self (F39_l0 N self n v1) v1) (F39_l0 N self n v1) v41 v42
noncomputable def F39_g(N:Nat)(self:T12→Option ((Int×Unit)))(v1:T12)(c0:T12→Int→Int→Option ((Int×Unit))):Option ((Int×Unit)):=
 (bif(v1.1 !=0)then(some (v1.1,()))else((c0 v1 0 0)))
noncomputable def F39(N:Nat):Nat→T12→Option ((Int×Unit))
 |0,_=>none
 |d+1,v1=>F39_g N (F39 N d) v1 (F39_l0 N (F39 N d) N)
noncomputable def F39_con'(N d:Nat):Con2:=⟨165,[.lref p2],a32,fun x=>F39 N d x.1⟩
noncomputable def F39_E(N d:Nat):Env:=⟨PG,N,[],[nm 0 [0] [],nm 1 [0] [],nm 2 [0,11] [],nm 3 [0] [],nm 4 [0,3] [],nm 5 [3,19,20,21] [],nm 6 [3,19,20,21] [],nm 7 [3,5,19,20,21] [],ng N 8 [3,6,19,20,21] [],nm 10 [3,6,19,20,21,30] [],nm 11 [3,6,19,20,21,27] [],nm 12 [3,6,19,20,21,27,32] [],nm 13 [3,6,19,20,21,35] [],nm 15 [3,6,19,20,21,38] [],nm 17 [3,6,19,20,21,40] [],nm 18 [3,6,19,20,21,43] [],nm 20 [3,6,19,20,21,46] [],ng N 21 [3,19,20,21] [],nm 22 [3] []],kdL kd0,[F39_con' N d,F38_con N],[],(GL N),tl0,[]⟩
noncomputable def q11(N d:Nat):=kBlock 0 (kq (F39_E N d) (c165 [1,1,1,1]) (kEnd2 (F39_E N d) [] Tryz.f165.results.toList a32 [.dead]))
noncomputable def q10(N d m0:Nat):=kSeq (advOf (F39_E N d) (c165 [1,1,1,0,1,0,0])) (fun st K=>lq (F39_E N d) (c165 [1,1,1,0,1,0,0]) m0 st K) (q11 N d)
noncomputable def F39_e2(N d m0:Nat)(v1:T12)(v42 v81:Int):=
 gate N (evC (F39_E N d) (c165 [1,1,1,0,1,0,0,1,1,1]) ⟨[(3, .pv (.int .i64) v81),(19, .pv (.list .any) v1.2.1),(20, .pv (.int .i64) (v1.2.1.length:Int)),(21, .pv (.int .i64) v42)],[],[]⟩ (q10 N d m0))
noncomputable def F39_e1(N d m0:Nat)(v1:T12)(v41 v42 v80:Int):=
 gate N (evC (F39_E N d) (c165 [1,1,1,0,1,0,0,1,1,0,0,1,1]) ⟨[(3, .pv (.int .i64) v41),(6, .pv (.int .i64) v80),(19, .pv (.list .any) v1.2.1),(20, .pv (.int .i64) (v1.2.1.length:Int)),(21, .pv (.int .i64) v42)],[],[]⟩ (kBlock 1 (kq (F39_E N d) (c165 [1,1,1,0,1,0,0,1,1,1]) (q10 N d m0))))
noncomputable def F39_e0(N d n:Nat)(v1:T12)(v41 v42:Int):=
 lq (F39_E N d) (c165 [1,1,1,0,1,0,0]) n ⟨[(3, .pv (.int .i64) v41),(19, .pv (.list .any) v1.2.1),(20, .pv (.int .i64) (v1.2.1.length:Int)),(21, .pv (.int .i64) v42)],[],[]⟩ (q11 N d)
theorem F39_t2(N d m0:Nat)(v1:T12)(v42 v81:Int):F39_e2 N d m0 v1 v42 v81=F39_j2 N (F39 N d) (F39_e0 N d m0 v1) v1 v42 v81:=by
 exact(congrArg (gate N) (show _=F39_g2 N (F39 N d) v1 v42 (F39_e0 N d m0 v1) v81 from by kernel_rfl)).trans (by rfl)
theorem F39_t1(N d m0:Nat)(v1:T12)(v41 v42 v80:Int):F39_e1 N d m0 v1 v41 v42 v80=F39_j1 N (F39 N d) (F39_e0 N d m0 v1) v1 v41 v42 v80:=by
 have h2:(F39_e2 N d m0 v1)=(F39_j2 N (F39 N d) (F39_e0 N d m0 v1) v1):=by funext v42 v81;exact F39_t2 N d m0 v1 v42 v81
 exact(congrArg (gate N) (show _=F39_g1 N (F39 N d) v1 v41 v42 (F39_e2 N d m0 v1) (F39_e0 N d m0 v1) v80 from by kernel_rfl)).trans (by rw[h2];rfl)
theorem F39_t0(N d:Nat):∀(n:Nat) (v1:T12) (v41 v42:Int),F39_e0 N d n v1 v41 v42=F39_l0 N (F39 N d) n v1 v41 v42
 |0,_,_,_=>rfl
 |n+1,v1,v41,v42=>by
  have h1:(F39_e1 N d n v1)=(F39_j1 N (F39 N d) (F39_e0 N d n v1) v1):=by funext v41 v42 v80;exact F39_t1 N d n v1 v41 v42 v80
  have h:F39_e0 N d n v1=F39_l0 N (F39 N d) n v1:=by funext v41 v42;exact F39_t0 N d n v1 v41 v42
  exact Eq.trans (b:=F39_g0 N (F39 N d) v1 (F39_e1 N d n v1) (F39_e0 N d n v1) v41 v42) (by kernel_rfl) (by rw[h1,h];rfl)
theorem F39_t(N d:Nat)(v1:T12):evF2 (F39_E N d) [] Tryz.f165 [.lref p2] a32 (v1,())=F39 N (d+1) v1:=by
 have h0:(F39_e0 N d N)=(F39_l0 N (F39 N d) N):=by funext v1 v41 v42;exact F39_t0 N d N v1 v41 v42
 exact Eq.trans (b:=F39_g N (F39 N d) v1 (F39_e0 N d N)) (by kernel_rfl) (by rw[h0];rfl)
theorem F39_s'(N:Nat):∀d,(F39_con' N d).Sound PG (GL N)
 |0=>fun _ _ _ _ _ _ _ _ _ _ _ h=>by cases h
 |d+1=>Con2.sound_of (c:=F39_con' N (d+1)) (E:=(F39_E N d)) (idle:=[]) Tryz.func165 (by kernel_rfl) (by kernel_rfl) ⟨allNil,(allCons (F39_s' N d) (allCons (F38_s N) allNil)),rfl⟩ allNil (fun x y h=>(F39_t N d x.1).trans h)
noncomputable def F39_con(N:Nat):Con2:=F39_con' N N
theorem F39_s(N:Nat):(F39_con N).Sound PG (GL N):=F39_s' N N
noncomputable def F40_E(N:Nat):Env:=⟨PG,N,[],[nm 0 [0,1] [1000000,1000001,1000002],nm 1 [0,1] [1000000,1000001,1000002],nm 2 [0,1,12] [1000000,1000001,1000002],nm 3 [0,1,13,14,15] [1000000,1000001,1000002],nm 4 [0,1,13,14,15] [1000000,1000001,1000002],nm 5 [0,1,6,13,14,15] [1000000,1000001,1000002],ng N 6 [0,1,7,13,14,15] [1000000,1000001,1000002],nm 7 [0,1,7,13,14,15,26] [1000000,1000001,1000002],nm 8 [0,1,13,14,15] [1000000,1000001,1000002],ng N 9 [0,1] [1000000,1000001,1000002],nm 10 [] [41,1000000,1000002]],kdL [(50, .any),(72, .any),(75, .any),(78, .any),(81, .any),(85, .any),(91, .any),(94, .any),(98, .any),(104, .unit),(105, .unit),(140,p0),(147,(.pair p0 .unit)),(152,p1),(155,(.pair p0 .unit)),(157,p1),(158,p1),(162,p3),(165,p2)],[F38_con N,F39_con N],[],(GL N),tl0,[]⟩
noncomputable def F40_g1(N:Nat)(v2:List Ce)(v1:T16)(v42:Int)(r0:Int→Option T8)(v81:Int):Option T8:=
 (bif(v81 !=v1.1)then(some (Sum.inl ((v81,v1.1,()),(v1.1,v1.2.1,v1.2.2.1,()),v2,())))else((r0 (IntKind.i64.wrap (v42+1)))))
noncomputable def F40_j1(N:Nat)(r0:Int→Option T8)(v2:List Ce)(v1:T16)(v42 v81:Int):Option T8:=
 gate N (F40_g1 N v2 v1 v42 r0 v81)
noncomputable def F40_g2(N:Nat)(v1:T16)(v2:List Ce):Option T8:=
 (lim ((v1.2.1.length+v2.length)*16)).bind fun _=>(some (Sum.inr ((),(v1.1,(v1.2.1++v2),v1.2.2.1,()),v2,())))
noncomputable def F40_j2(N:Nat)(v1:T16)(v2:List Ce):Option T8:=
 gate N (F40_g2 N v1 v2)
noncomputable def F40_g0(N:Nat)(v2:List Ce)(v1:T16)(c1:Int→Int→Option T8)(c2:T16→(List Ce)→Option T8)(r0:Int→Option T8)(v42:Int):Option T8:=
 (bif(decide ((v42:Int)<(v2.length:Int)))then((chk v42 v2.length).bind fun v43=>(v2[v43]?).bind fun v44=>((isT 104 v44).bind fun v45=>(bif v45 then((asT .unit 104 v44).bind fun v46=>none)else((isT 105 v44).bind fun v47=>(bif v47 then((asT .unit 105 v44).bind fun v48=>none)else((isT 72 v44).bind fun v49=>(bif v49 then((asT .any 72 v44).bind fun v50=>(ptrD p0 v50).bind fun v51=>(F38 N v51.1).bind fun v52=>(c1 v42 v52.1))else((isT 75 v44).bind fun v53=>(bif v53 then((asT .any 75 v44).bind fun v54=>(ptrD (.pair p0 .unit) v54).bind fun v55=>(F38 N v55.1.1).bind fun v56=>(c1 v42 v56.1))else((isT 78 v44).bind fun v57=>(bif v57 then((asT .any 78 v44).bind fun v58=>(ptrD (.pair p0 .unit) v58).bind fun v59=>(F38 N v59.1.1).bind fun v60=>(c1 v42 v60.1))else((isT 81 v44).bind fun v61=>(bif v61 then((asT .any 81 v44).bind fun v62=>(ptrD p1 v62).bind fun v63=>(F38 N v63.1.1.1).bind fun v64=>(c1 v42 v64.1))else((isT 85 v44).bind fun v65=>(bif v65 then((asT .any 85 v44).bind fun v66=>(ptrD p1 v66).bind fun v67=>(F38 N v67.1.1.1).bind fun v68=>(c1 v42 v68.1))else((isT 91 v44).bind fun v69=>(bif v69 then((asT .any 91 v44).bind fun v70=>(ptrD p1 v70).bind fun v71=>(F38 N v71.1.1.1).bind fun v72=>(c1 v42 v72.1))else((isT 94 v44).bind fun v73=>(bif v73 then((asT .any 94 v44).bind fun v74=>(ptrD p3 v74).bind fun v75=>(F38 N v75.1.1.1).bind fun v76=>(c1 v42 v76.1))else((isT 98 v44).bind fun v77=>(bif v77 then((asT .any 98 v44).bind fun v78=>(ptrD p2 v78).bind fun v79=>(F39 N N v79).bind fun v80=>(c1 v42 v80.1))else none)))))))))))))))))))))else(c2 v1 v2))
noncomputable def F40_l0(N:Nat):Nat→(List Ce)→T16→Int→Option T8
 |0,_,_,_=>none
 |n+1,v2,v1,v42=>F40_g0 N v2 v1 (F40_j1 N (F40_l0 N n v2 v1) v2 v1) (F40_j2 N) (F40_l0 N n v2 v1) v42
noncomputable def F40_g(N:Nat)(v1:T16)(v2:List Ce)(c0:(List Ce)→T16→Int→Option T8)(c2:T16→(List Ce)→Option T8):Option T8:=
 (bif(v1.1 !=0)then((c0 v2 v1 0))else(c2 v1 v2))
noncomputable def F40(N:Nat)(v1:T16)(v2:List Ce):Option T8:=
 F40_g N v1 v2 (F40_l0 N N) (F40_j2 N)
noncomputable def q12(N:Nat):=kEnd2 (F40_E N) [] Tryz.f90.results.toList a9 [.ref 1000000 0, .own .any 1000002]
noncomputable def q13(N:Nat):=kBlock 0 (kq (F40_E N) (c90 [1,1]) (q12 N))
noncomputable def F40_e1(N m0:Nat)(v2:List Ce)(v1:T16)(v42 v81:Int):=
 gate N (evC (F40_E N) (c90 [1,0,1,0,1,0,0,1,1,0,0,1,1]) ⟨[(0, .ref 1000000 0),(1, .own .any 1000002),(7, .pv (.int .i64) v81),(13, .own .any 1000002),(14, .pv (.int .i64) (v2.length:Int)),(15, .pv (.int .i64) v42)],[(1000000, .box [.pv (.int .i64) v1.1, .own .any 1000001, .pv (.int .i64) v1.2.2.1]),(1000001, .arr 50 .any v1.2.1),(1000002, .arr 50 .any v2)],[]⟩ (kBlock 1 (kq (F40_E N) (c90 [1,0,1,0,1,0,0,1,1,1]) (kSeq (advOf (F40_E N) (c90 [1,0,1,0,1,0,0])) (fun st K=>lq (F40_E N) (c90 [1,0,1,0,1,0,0]) m0 st K) (q13 N)))))
noncomputable def F40_e2(N:Nat)(v1:T16)(v2:List Ce):=
 gate N (evC (F40_E N) (c90 [1,1]) ⟨[(0, .ref 1000000 0),(1, .own .any 1000002)],[(1000000, .box [.pv (.int .i64) v1.1, .own .any 1000001, .pv (.int .i64) v1.2.2.1]),(1000001, .arr 50 .any v1.2.1),(1000002, .arr 50 .any v2)],[]⟩ (q12 N))
noncomputable def F40_e0(N n:Nat)(v2:List Ce)(v1:T16)(v42:Int):=
 lq (F40_E N) (c90 [1,0,1,0,1,0,0]) n ⟨[(0, .ref 1000000 0),(1, .own .any 1000002),(13, .own .any 1000002),(14, .pv (.int .i64) (v2.length:Int)),(15, .pv (.int .i64) v42)],[(1000000, .box [.pv (.int .i64) v1.1, .own .any 1000001, .pv (.int .i64) v1.2.2.1]),(1000001, .arr 50 .any v1.2.1),(1000002, .arr 50 .any v2)],[]⟩ (q13 N)
theorem F40_t1(N m0:Nat)(v2:List Ce)(v1:T16)(v42 v81:Int):F40_e1 N m0 v2 v1 v42 v81=F40_j1 N (F40_e0 N m0 v2 v1) v2 v1 v42 v81:=by
 exact(congrArg (gate N) (show _=F40_g1 N v2 v1 v42 (F40_e0 N m0 v2 v1) v81 from by kernel_rfl)).trans (by rfl)
theorem F40_t2(N:Nat)(v1:T16)(v2:List Ce):F40_e2 N v1 v2=F40_j2 N v1 v2:=by
 exact(congrArg (gate N) (show _=F40_g2 N v1 v2 from by kernel_rfl)).trans (by rfl)
theorem F40_t0(N:Nat):∀(n:Nat) (v2:List Ce) (v1:T16) (v42:Int),F40_e0 N n v2 v1 v42=F40_l0 N n v2 v1 v42
 |0,_,_,_=>rfl
 |n+1,v2,v1,v42=>by
  have h1:(F40_e1 N n v2 v1)=(F40_j1 N (F40_e0 N n v2 v1) v2 v1):=by funext v42 v81;exact F40_t1 N n v2 v1 v42 v81
  have h2:(F40_e2 N)=(F40_j2 N):=by funext v1 v2;exact F40_t2 N v1 v2
  have h:F40_e0 N n v2 v1=F40_l0 N n v2 v1:=by funext v42;exact F40_t0 N n v2 v1 v42
  exact Eq.trans (b:=F40_g0 N v2 v1 (F40_e1 N n v2 v1) (F40_e2 N) (F40_e0 N n v2 v1) v42) (by kernel_rfl) (by rw[h1,h2,h];rfl)
theorem F40_t(N:Nat)(v1:T16)(v2:List Ce):evF2 (F40_E N) [] Tryz.f90 s9 a9 (v1,v2,())=F40 N v1 v2:=by
 have h0:(F40_e0 N N)=(F40_l0 N N):=by funext v2 v1 v42;exact F40_t0 N N v2 v1 v42
 have h2:(F40_e2 N)=(F40_j2 N):=by funext v1 v2;exact F40_t2 N v1 v2
 exact Eq.trans (b:=F40_g N v1 v2 (F40_e0 N N) (F40_e2 N)) (by kernel_rfl) (by rw[h0,h2];rfl)
noncomputable def F40_con(N:Nat):Con2:=⟨90,s9,a9,fun x=>F40 N x.1 x.2.1⟩
theorem F40_s(N:Nat):(F40_con N).Sound PG (GL N):=
 Con2.sound_of (c:=F40_con N) (E:=(F40_E N)) (idle:=[]) Tryz.func90 (by kernel_rfl) (by kernel_rfl) ⟨allNil,(allCons (F38_s N) (allCons (F39_s N) allNil)),rfl⟩ allNil (fun x y h=>(F40_t N x.1 x.2.1).trans h)
noncomputable def F41_E(N:Nat):Env:=⟨PG,N,[],[nm 0 [0,1] [1000000,1000001,1000002],nm 1 [0,1] [1000000,1000001,1000002],nm 2 [0,5] [100401,1000000,1000002],nm 3 [0,5,10] [100401,1000000,1000002],nm 4 [0] [100401,1000000,1000002]],kdL [],[F40_con N],[],(GL N),tl0,[]⟩
noncomputable def F41_g(N:Nat)(v1:T16)(v2:List Ce):Option ((Unit×T16×(List Ce)×Unit)):=
 ((F40 N (v1.1,v1.2.1,v1.2.2.1,()) v2).bind fun v3=>Sum.elim (fun v4=>none) (fun v5=>(some ((),v5.2.1,v5.2.2.1,()))) v3)
noncomputable def F41(N:Nat)(v1:T16)(v2:List Ce):Option ((Unit×T16×(List Ce)×Unit)):=
 F41_g N v1 v2
theorem F41_t(N:Nat)(v1:T16)(v2:List Ce):evF2 (F41_E N) [] Tryz.f58 s9 [⟨[.par 0],[some (.box [.k (.int .i64), .row 50 .any, .k (.int .i64)]),some (.row 50 .any)]⟩] (v1,v2,())=F41 N v1 v2:=
 Eq.trans (b:=F41_g N v1 v2) (by kernel_rfl) rfl
noncomputable def F41_con(N:Nat):Con2:=⟨58,s9,[⟨[.par 0],[some (.box [.k (.int .i64), .row 50 .any, .k (.int .i64)]),some (.row 50 .any)]⟩],fun x=>F41 N x.1 x.2.1⟩
theorem F41_s(N:Nat):(F41_con N).Sound PG (GL N):=
 Con2.sound_of (c:=F41_con N) (E:=(F41_E N)) (idle:=[]) Tryz.func58 (by kernel_rfl) (by kernel_rfl) ⟨allNil,(allCons (F40_s N) allNil),rfl⟩ allNil (fun x y h=>(F41_t N x.1 x.2.1).trans h)
end
noncomputable section
noncomputable def F42_E(N:Nat):Env:=⟨PG,N,[],[nm 0 [0,1] [],nm 1 [0,1] [],nm 2 [0,1,9] [],nm 3 [1,13,14,15] [],nm 4 [1,13,14,15] [],nm 5 [1,6,13,14,15] [],ng N 6 [1,7,13,14,15] [],nm 7 [1,7,13,14,15,23] [],nm 8 [1,13,14,15] [],ng N 9 [] []],kdL kd0,[F38_con N,F39_con N],[],(GL N),tl0,[]⟩
noncomputable def F42_g1(N:Nat)(v2:Int)(v1:T12)(v41:Int)(r0:Int→Option ((T20×Unit)⊕(Unit×Unit)))(v79:Int):Option ((T20×Unit)⊕(Unit×Unit)):=
 (bif(v79 !=v2)then(some (Sum.inl ((v2,v79,()),())))else((r0 (IntKind.i64.wrap (v41+1)))))
noncomputable def F42_j1(N:Nat)(r0:Int→Option ((T20×Unit)⊕(Unit×Unit)))(v2:Int)(v1:T12)(v41 v79:Int):Option ((T20×Unit)⊕(Unit×Unit)):=
 gate N (F42_g1 N v2 v1 v41 r0 v79)
noncomputable def F42_g2(N:Nat):Option ((T20×Unit)⊕(Unit×Unit)):=
 (some (Sum.inr ((),())))
noncomputable def F42_j2(N:Nat):Option ((T20×Unit)⊕(Unit×Unit)):=
 gate N (F42_g2 N)
noncomputable def F42_g0(N:Nat)(v2:Int)(v1:T12)(c1:Int→Int→Option ((T20×Unit)⊕(Unit×Unit)))(c2:Option ((T20×Unit)⊕(Unit×Unit)))(r0:Int→Option ((T20×Unit)⊕(Unit×Unit)))(v41:Int):Option ((T20×Unit)⊕(Unit×Unit)):=
 (bif(decide ((v41:Int)<(v1.2.1.length:Int)))then((nth v1.2.1 v41).bind fun v42=>((isT 104 v42).bind fun v43=>(bif v43 then((asT .unit 104 v42).bind fun v44=>none)else((isT 105 v42).bind fun v45=>(bif v45 then((asT .unit 105 v42).bind fun v46=>none)else((isT 72 v42).bind fun v47=>(bif v47 then((asT .any 72 v42).bind fun v48=>(ptrD p0 v48).bind fun v49=>(F38 N v49.1).bind fun v50=>(c1 v41 v50.1))else((isT 75 v42).bind fun v51=>(bif v51 then((asT .any 75 v42).bind fun v52=>(ptrD (.pair p0 .unit) v52).bind fun v53=>(F38 N v53.1.1).bind fun v54=>(c1 v41 v54.1))else((isT 78 v42).bind fun v55=>(bif v55 then((asT .any 78 v42).bind fun v56=>(ptrD (.pair p0 .unit) v56).bind fun v57=>(F38 N v57.1.1).bind fun v58=>(c1 v41 v58.1))else((isT 81 v42).bind fun v59=>(bif v59 then((asT .any 81 v42).bind fun v60=>(ptrD p1 v60).bind fun v61=>(F38 N v61.1.1.1).bind fun v62=>(c1 v41 v62.1))else((isT 85 v42).bind fun v63=>(bif v63 then((asT .any 85 v42).bind fun v64=>(ptrD p1 v64).bind fun v65=>(F38 N v65.1.1.1).bind fun v66=>(c1 v41 v66.1))else((isT 91 v42).bind fun v67=>(bif v67 then((asT .any 91 v42).bind fun v68=>(ptrD p1 v68).bind fun v69=>(F38 N v69.1.1.1).bind fun v70=>(c1 v41 v70.1))else((isT 94 v42).bind fun v71=>(bif v71 then((asT .any 94 v42).bind fun v72=>(ptrD p3 v72).bind fun v73=>(F38 N v73.1.1.1).bind fun v74=>(c1 v41 v74.1))else((isT 98 v42).bind fun v75=>(bif v75 then((asT .any 98 v42).bind fun v76=>(ptrD p2 v76).bind fun v77=>(F39 N N v77).bind fun v78=>(c1 v41 v78.1))else none)))))))))))))))))))))else c2)
noncomputable def F42_l0(N:Nat):Nat→Int→T12→Int→Option ((T20×Unit)⊕(Unit×Unit))
 |0,_,_,_=>none
 |n+1,v2,v1,v41=>F42_g0 N v2 v1 (F42_j1 N (F42_l0 N n v2 v1) v2 v1) (F42_j2 N) (F42_l0 N n v2 v1) v41
noncomputable def F42_g(N:Nat)(v1:T12)(v2:Int)(c0:Int→T12→Int→Option ((T20×Unit)⊕(Unit×Unit)))(c2:Option ((T20×Unit)⊕(Unit×Unit))):Option ((T20×Unit)⊕(Unit×Unit)):=
 (bif(v2 !=0)then((c0 v2 v1 0))else c2)
noncomputable def F42(N:Nat)(v1:T12)(v2:Int):Option ((T20×Unit)⊕(Unit×Unit)):=
 F42_g N v1 v2 (F42_l0 N N) (F42_j2 N)
noncomputable def q14(N:Nat):=kEnd2 (F42_E N) [] Tryz.f117.results.toList a30 [.dead, .dead]
noncomputable def q15(N:Nat):=kBlock 0 (kq (F42_E N) (c117 [1,1]) (q14 N))
noncomputable def F42_e1(N m0:Nat)(v2:Int)(v1:T12)(v41 v79:Int):=
 gate N (evC (F42_E N) (c117 [1,0,1,0,1,0,0,1,1,0,0,1,1]) ⟨[(1, .pv (.int .i64) v2),(7, .pv (.int .i64) v79),(13, .pv (.list .any) v1.2.1),(14, .pv (.int .i64) (v1.2.1.length:Int)),(15, .pv (.int .i64) v41)],[],[]⟩ (kBlock 1 (kq (F42_E N) (c117 [1,0,1,0,1,0,0,1,1,1]) (kSeq (advOf (F42_E N) (c117 [1,0,1,0,1,0,0])) (fun st K=>lq (F42_E N) (c117 [1,0,1,0,1,0,0]) m0 st K) (q15 N)))))
noncomputable def F42_e2(N:Nat):=
 gate N (evC (F42_E N) (c117 [1,1]) ⟨[],[],[]⟩ (q14 N))
noncomputable def F42_e0(N n:Nat)(v2:Int)(v1:T12)(v41:Int):=
 lq (F42_E N) (c117 [1,0,1,0,1,0,0]) n ⟨[(1, .pv (.int .i64) v2),(13, .pv (.list .any) v1.2.1),(14, .pv (.int .i64) (v1.2.1.length:Int)),(15, .pv (.int .i64) v41)],[],[]⟩ (q15 N)
theorem F42_t1(N m0:Nat)(v2:Int)(v1:T12)(v41 v79:Int):F42_e1 N m0 v2 v1 v41 v79=F42_j1 N (F42_e0 N m0 v2 v1) v2 v1 v41 v79:=by
 exact(congrArg (gate N) (show _=F42_g1 N v2 v1 v41 (F42_e0 N m0 v2 v1) v79 from by kernel_rfl)).trans (by rfl)
theorem F42_t2(N:Nat):F42_e2 N=F42_j2 N:=by
 exact(congrArg (gate N) (show _=F42_g2 N from by kernel_rfl)).trans (by rfl)
theorem F42_t0(N:Nat):∀(n:Nat) (v2:Int) (v1:T12) (v41:Int),F42_e0 N n v2 v1 v41=F42_l0 N n v2 v1 v41
 |0,_,_,_=>rfl
 |n+1,v2,v1,v41=>by
  have h1:(F42_e1 N n v2 v1)=(F42_j1 N (F42_e0 N n v2 v1) v2 v1):=by funext v41 v79;exact F42_t1 N n v2 v1 v41 v79
  have h2:(F42_e2 N)=(F42_j2 N):=F42_t2 N
  have h:F42_e0 N n v2 v1=F42_l0 N n v2 v1:=by funext v41;exact F42_t0 N n v2 v1 v41
  exact Eq.trans (b:=F42_g0 N v2 v1 (F42_e1 N n v2 v1) (F42_e2 N) (F42_e0 N n v2 v1) v41) (by kernel_rfl) (by rw[h1,h2,h];rfl)
theorem F42_t(N:Nat)(v1:T12)(v2:Int):evF2 (F42_E N) [] Tryz.f117 [.lref p2, .k (.int .i64)] a30 (v1,v2,())=F42 N v1 v2:=by
 have h0:(F42_e0 N N)=(F42_l0 N N):=by funext v2 v1 v41;exact F42_t0 N N v2 v1 v41
 have h2:(F42_e2 N)=(F42_j2 N):=F42_t2 N
 exact Eq.trans (b:=F42_g N v1 v2 (F42_e0 N N) (F42_e2 N)) (by kernel_rfl) (by rw[h0,h2];rfl)
noncomputable def F42_con(N:Nat):Con2:=⟨117,[.lref p2, .k (.int .i64)],a30,fun x=>F42 N x.1 x.2.1⟩
theorem F42_s(N:Nat):(F42_con N).Sound PG (GL N):=
 Con2.sound_of (c:=F42_con N) (E:=(F42_E N)) (idle:=[]) Tryz.func117 (by kernel_rfl) (by kernel_rfl) ⟨allNil,(allCons (F38_s N) (allCons (F39_s N) allNil)),rfl⟩ allNil (fun x y h=>(F42_t N x.1 x.2.1).trans h)
noncomputable def F43_E(N:Nat):Env:=⟨PG,N,[],[nm 0 [0,1] [1000000,1000001],nm 1 [0,1] [1000000,1000001],nm 2 [0,1,5] [1000000,1000001],nm 3 [0,1,5,10] [1000000,1000001],nm 4 [0,1] [1000000,1000001],nm 5 [] [1000000,1000001]],kdL [],[F42_con N],[],(GL N),tl0,[]⟩
noncomputable def F43_g(N:Nat)(v1:T16)(v2:Int):Option ((T20×T16×Unit)⊕(Unit×T16×Unit)):=
 ((F42 N (v1.1,v1.2.1,v1.2.2.1,()) v2).bind fun v3=>Sum.elim (fun v4=>(some (Sum.inl (v4.1,(v1.1,v1.2.1,v1.2.2.1,()),())))) (fun v5=>(some (Sum.inr ((),(v2,v1.2.1,v1.2.2.1,()),())))) v3)
noncomputable def F43(N:Nat)(v1:T16)(v2:Int):Option ((T20×T16×Unit)⊕(Unit×T16×Unit)):=
 F43_g N v1 v2
theorem F43_t(N:Nat)(v1:T16)(v2:Int):evF2 (F43_E N) [] Tryz.f91 s5 a37 (v1,v2,())=F43 N v1 v2:=
 Eq.trans (b:=F43_g N v1 v2) (by kernel_rfl) rfl
noncomputable def F43_con(N:Nat):Con2:=⟨91,s5,a37,fun x=>F43 N x.1 x.2.1⟩
theorem F43_s(N:Nat):(F43_con N).Sound PG (GL N):=
 Con2.sound_of (c:=F43_con N) (E:=(F43_E N)) (idle:=[]) Tryz.func91 (by kernel_rfl) (by kernel_rfl) ⟨allNil,(allCons (F42_s N) allNil),rfl⟩ allNil (fun x y h=>(F43_t N x.1 x.2.1).trans h)
noncomputable def F44_E(N:Nat):Env:=⟨PG,N,[],[nm 0 [0,1] [1000000,1000001],nm 1 [0,1] [1000000,1000001],nm 2 [0,5] [100401,1000000],nm 3 [0,5,10] [100401,1000000],nm 4 [0] [100401,1000000]],kdL [],[F43_con N],[],(GL N),tl0,[]⟩
noncomputable def F44_g(N:Nat)(v1:T16)(v2:Int):Option ((Unit×T16×Unit)):=
 ((F43 N (v1.1,v1.2.1,v1.2.2.1,()) v2).bind fun v3=>Sum.elim (fun v4=>none) (fun v5=>(some ((),v5.2.1,()))) v3)
noncomputable def F44(N:Nat)(v1:T16)(v2:Int):Option ((Unit×T16×Unit)):=
 F44_g N v1 v2
theorem F44_t(N:Nat)(v1:T16)(v2:Int):evF2 (F44_E N) [] Tryz.f59 s5 a34 (v1,v2,())=F44 N v1 v2:=
 Eq.trans (b:=F44_g N v1 v2) (by kernel_rfl) rfl
noncomputable def F44_con(N:Nat):Con2:=⟨59,s5,a34,fun x=>F44 N x.1 x.2.1⟩
theorem F44_s(N:Nat):(F44_con N).Sound PG (GL N):=
 Con2.sound_of (c:=F44_con N) (E:=(F44_E N)) (idle:=[]) Tryz.func59 (by kernel_rfl) (by kernel_rfl) ⟨allNil,(allCons (F43_s N) allNil),rfl⟩ allNil (fun x y h=>(F44_t N x.1 x.2.1).trans h)
noncomputable def F45_g0(N:Nat)(self:Geo→Option ((Ce×Unit)))(v1:Geo)(r0:Int→Int→Int→(List Ce)→Option ((Ce×Unit)))(v27 v28 v29:Int)(v30:List Ce):Option ((Ce×Unit)):=
 (bif(decide ((v27:Int)<(v1.kids.length:Int)))then((nth v1.kids v27).bind fun v31=>((self (Geo.mk v31.kind v31.layout v31.srid v31.flat v31.ends v31.endss v31.kids)).bind fun v32=>(F41 N (v28,v30,v29,()) ([v32.1]:List Ce)).bind fun v33=>((r0 (IntKind.i64.wrap (v27+1)) v33.2.1.1 v33.2.1.2.2.1 v33.2.1.2.1))))else((F44 N (v28,v30,v29,()) v1.layout).bind fun v34=>(some ((Ce.ifc 98 (Ce.ptr [(Ce.int .i64 v34.2.1.1),(Ce.sl v34.2.1.2.1),(Ce.int .i64 v34.2.1.2.2.1)])),()))))
noncomputable def F45_l0(N:Nat)(self:Geo→Option ((Ce×Unit))):Nat→Geo→Int→Int→Int→(List Ce)→Option ((Ce×Unit))
 |0,_,_,_,_,_=>none
 |n+1,v1,v27,v28,v29,v30=>F45_g0 N self v1 (F45_l0 N self n v1) v27 v28 v29 v30
noncomputable def F45_g(N:Nat)(self:Geo→Option ((Ce×Unit)))(v1:Geo)(c0:Geo→Int→Int→Int→(List Ce)→Option ((Ce×Unit))):Option ((Ce×Unit)):=
 ((F16 N v1.flat).bind fun v2=>(bif(v1.kind==1)then((F18 N v1.layout v2.1).bind fun v3=>(F19 N v3.1 v1.srid).bind fun v4=>(some ((Ce.ifc 72 (Ce.ptr [(Ce.int .i64 v4.2.1.1),(Ce.int .i64 v4.2.1.2.1),(Ce.fl v4.2.1.2.2.1),(Ce.int .i64 v4.2.1.2.2.2.1)])),())))else(bif(v1.kind==2)then((F20 N v1.layout v2.1).bind fun v5=>(F21 N v5.1 v1.srid).bind fun v6=>(some ((Ce.ifc 75 (Ce.ptr [(Ce.int .i64 v6.2.1.1),(Ce.int .i64 v6.2.1.2.1),(Ce.fl v6.2.1.2.2.1),(Ce.int .i64 v6.2.1.2.2.2.1)])),())))else(bif(v1.kind==8)then((F22 N v1.layout v2.1).bind fun v7=>(F23 N v7.1 v1.srid).bind fun v8=>(some ((Ce.ifc 78 (Ce.ptr [(Ce.int .i64 v8.2.1.1),(Ce.int .i64 v8.2.1.2.1),(Ce.fl v8.2.1.2.2.1),(Ce.int .i64 v8.2.1.2.2.2.1)])),())))else(bif(v1.kind==3)then((F24 N v1.ends).bind fun v9=>(F25 N v1.layout v2.1 v9.1).bind fun v10=>(F26 N v10.1 v1.srid).bind fun v11=>(some ((Ce.ifc 81 (Ce.ptr [(Ce.int .i64 v11.2.1.1),(Ce.int .i64 v11.2.1.2.1),(Ce.fl v11.2.1.2.2.1),(Ce.int .i64 v11.2.1.2.2.2.1),(Ce.il v11.2.1.2.2.2.2.1)])),())))else(bif(v1.kind==4)then((F24 N v1.ends).bind fun v12=>(F27 N v12.1).bind fun v13=>(F29 N v1.layout v2.1 (((v13.1.1.1,()),()),())).bind fun v14=>(F30 N v14.1 v1.srid).bind fun v15=>(some ((Ce.ifc 85 (Ce.ptr [(Ce.int .i64 v15.2.1.1),(Ce.int .i64 v15.2.1.2.1),(Ce.fl v15.2.1.2.2.1),(Ce.int .i64 v15.2.1.2.2.2.1),(Ce.il v15.2.1.2.2.2.2.1)])),())))else(bif(v1.kind==5)then((F24 N v1.ends).bind fun v16=>(F31 N v1.layout v2.1 v16.1).bind fun v17=>(F32 N v17.1 v1.srid).bind fun v18=>(some ((Ce.ifc 91 (Ce.ptr [(Ce.int .i64 v18.2.1.1),(Ce.int .i64 v18.2.1.2.1),(Ce.fl v18.2.1.2.2.1),(Ce.int .i64 v18.2.1.2.2.2.1),(Ce.il v18.2.1.2.2.2.2.1)])),())))else(bif(v1.kind==6)then((F33 N v1.endss).bind fun v19=>(F34 N v1.layout v2.1 v19.1).bind fun v20=>(F35 N v20.1 v1.srid).bind fun v21=>(some ((Ce.ifc 94 (Ce.ptr [(Ce.int .i64 v21.2.1.1),(Ce.int .i64 v21.2.1.2.1),(Ce.fl v21.2.1.2.2.1),(Ce.int .i64 v21.2.1.2.2.2.1),(Ce.ill v21.2.1.2.2.2.2.1)])),())))else(bif(v1.kind==7)then((F36 N).bind fun v22=>(F37 N v22.1 v1.srid).bind fun v23=>((c0 v1 0 v23.2.1.1 v23.2.1.2.2.1 v23.2.1.2.1)))else none)))))))))
noncomputable def F45(N:Nat):Nat→Geo→Option ((Ce×Unit))
 |0,_=>none
 |d+1,v1=>F45_g N (F45 N d) v1 (F45_l0 N (F45 N d) N)
noncomputable def F45_con'(N d:Nat):Con2:=⟨21,[.k .geo],[⟨[.tr],[none]⟩],fun x=>F45 N d x.1⟩
noncomputable def F45_E(N d:Nat):Env:=⟨PG,N,[],[nm 0 [0] [],nm 1 [1,2] [1],nm 2 [1,2,3,4] [1,100600],nm 3 [1,2,3,4,14] [1,100600],nm 4 [1,2,3,4,14,15] [1,100600],nm 6 [1,2,3,4,14,24] [1,100600],nm 8 [1,2,3,4,14,33] [1,100600],nm 10 [1,2,3,4,14,42] [1,100600],nm 12 [1,2,3,4,14,54] [1,100600],nm 14 [1,2,3,4,14,68] [1,100600],nm 16 [1,2,3,4,14,80] [1,100600],nm 18 [1,2,3,92] [1],nm 19 [1,3,5] [1,104700,104851],nm 20 [3,5,99,100,101] [104700,104851],nm 21 [3,5,99,100,101] [104700,104851],nm 22 [3,5,7,99,100,101] [7,104700,104851],nm 23 [3,5,99,100,101] [104700,104851],nm 24 [3,5] [104700,104851],nm 25 [2] []],kdL [(50, .any)],[F45_con' N d,F16_con N,F18_con N,F19_con N,F20_con N,F21_con N,F22_con N,F23_con N,F24_con N,F25_con N,F26_con N,F27_con N,F29_con N,F30_con N,F31_con N,F32_con N,F33_con N,F34_con N,F35_con N,F36_con N,F37_con N,F41_con N,F44_con N],[],(GL N),tl0,[]⟩
noncomputable def F45_e0(N d n:Nat)(v1:Geo)(v27 v28 v29:Int)(v30:List Ce):=
 lq (F45_E N d) (c21 [1,1,0,1,0,1,1,1,1,1,1,1,1,1,1,1,1,1,1,1,0,1,0,1,0,0]) n ⟨[(3, .pv (.int .i64) v1.layout),(5, .ref 104700 0),(99, .pv (.list .geo) v1.kids),(100, .pv (.int .i64) (v1.kids.length:Int)),(101, .pv (.int .i64) v27)],[(104700, .box [.pv (.int .i64) v28, .own .any 104851, .pv (.int .i64) v29]),(104851, .arr 50 .any v30)],[]⟩ (kBlock 1 (kq (F45_E N d) (c21 [1,1,0,1,0,1,1,1,1,1,1,1,1,1,1,1,1,1,1,1,0,1,1]) (kBlock 0 (kq (F45_E N d) (c21 [1,1,1]) (kEnd2 (F45_E N d) [] Tryz.f21.results.toList [⟨[.tr],[none]⟩] [.dead])))))
theorem F45_t0(N d:Nat):∀(n:Nat) (v1:Geo) (v27 v28 v29:Int) (v30:List Ce),F45_e0 N d n v1 v27 v28 v29 v30=F45_l0 N (F45 N d) n v1 v27 v28 v29 v30
 |0,_,_,_,_,_=>rfl
 |n+1,v1,v27,v28,v29,v30=>by
  have h:F45_e0 N d n v1=F45_l0 N (F45 N d) n v1:=by funext v27 v28 v29 v30;exact F45_t0 N d n v1 v27 v28 v29 v30
  exact Eq.trans (b:=F45_g0 N (F45 N d) v1 (F45_e0 N d n v1) v27 v28 v29 v30) (by kernel_rfl) (by rw[h];rfl)
theorem F45_t(N d:Nat)(v1:Geo):evF2 (F45_E N d) [] Tryz.f21 [.k .geo] [⟨[.tr],[none]⟩] (v1,())=F45 N (d+1) v1:=by
 have h0:(F45_e0 N d N)=(F45_l0 N (F45 N d) N):=by funext v1 v27 v28 v29 v30;exact F45_t0 N d N v1 v27 v28 v29 v30
 exact Eq.trans (b:=F45_g N (F45 N d) v1 (F45_e0 N d N)) (by kernel_rfl) (by rw[h0];rfl)
theorem F45_s'(N:Nat):∀d,(F45_con' N d).Sound PG (GL N)
 |0=>fun _ _ _ _ _ _ _ _ _ _ _ h=>by cases h
 |d+1=>Con2.sound_of (c:=F45_con' N (d+1)) (E:=(F45_E N d)) (idle:=[]) Tryz.func21 (by kernel_rfl) (by kernel_rfl) ⟨allNil,(allCons (F45_s' N d) (allCons (F16_s N) (allCons (F18_s N) (allCons (F19_s N) (allCons (F20_s N) (allCons (F21_s N) (allCons (F22_s N) (allCons (F23_s N) (allCons (F24_s N) (allCons (F25_s N) (allCons (F26_s N) (allCons (F27_s N) (allCons (F29_s N) (allCons (F30_s N) (allCons (F31_s N) (allCons (F32_s N) (allCons (F33_s N) (allCons (F34_s N) (allCons (F35_s N) (allCons (F36_s N) (allCons (F37_s N) (allCons (F41_s N) (allCons (F44_s N) allNil))))))))))))))))))))))),rfl⟩ allNil (fun x y h=>(F45_t N d x.1).trans h)
noncomputable def F45_con(N:Nat):Con2:=F45_con' N N
theorem F45_s(N:Nat):(F45_con N).Sound PG (GL N):=F45_s' N N
noncomputable def F46_E(N:Nat):Env:=⟨PG,N,[],[nm 0 [0] [],nm 1 [1] [1]],kdL [],[],[],(GL N),tl0,[]⟩
noncomputable def F46_g(N:Nat)(v1:Int):Option (T5):=
 (some (((v1,()),()),()))
noncomputable def F46(N:Nat)(v1:Int):Option (T5):=
 F46_g N v1
theorem F46_t(N:Nat)(v1:Int):evF2 (F46_E N) [] Tryz.f64 [.k (.int .u8)] [⟨s4,[none]⟩] (v1,())=F46 N v1:=
 Eq.trans (b:=F46_g N v1) (by kernel_rfl) rfl
noncomputable def F46_con(N:Nat):Con2:=⟨64,[.k (.int .u8)],[⟨s4,[none]⟩],fun x=>F46 N x.1⟩
theorem F46_s(N:Nat):(F46_con N).Sound PG (GL N):=
 Con2.sound_of (c:=F46_con N) (E:=(F46_E N)) (idle:=[]) Tryz.func64 (by kernel_rfl) (by kernel_rfl) ⟨allNil,allNil,rfl⟩ allNil (fun x y h=>(F46_t N x.1).trans h)
noncomputable def F47_E(N:Nat):Env:=⟨PG,N,[],[nm 0 [0] [],nm 1 [0] [],nm 2 [3] [],nm 3 [] []],kdL [],[F46_con N],[],(GL N),tl0,[]⟩
noncomputable def F47_g(N:Nat)(v1:Bool):Option ((T5×Unit)⊕(Unit×Unit)):=
 (bif v1 then((F46 N 1).bind fun v2=>(some (Sum.inl ((((v2.1.1.1,()),()),()),()))))else(some (Sum.inr ((),()))))
noncomputable def F47(N:Nat)(v1:Bool):Option ((T5×Unit)⊕(Unit×Unit)):=
 F47_g N v1
theorem F47_t(N:Nat)(v1:Bool):evF2 (F47_E N) [] Tryz.f30 [.k .bool] [⟨[.bsl s4],[none]⟩,⟨[.snil],[none]⟩] (v1,())=F47 N v1:=
 Eq.trans (b:=F47_g N v1) (by kernel_rfl) rfl
noncomputable def F47_con(N:Nat):Con2:=⟨30,[.k .bool],[⟨[.bsl s4],[none]⟩,⟨[.snil],[none]⟩],fun x=>F47 N x.1⟩
theorem F47_s(N:Nat):(F47_con N).Sound PG (GL N):=
 Con2.sound_of (c:=F47_con N) (E:=(F47_E N)) (idle:=[]) Tryz.func30 (by kernel_rfl) (by kernel_rfl) ⟨allNil,(allCons (F46_s N) allNil),rfl⟩ allNil (fun x y h=>(F47_t N x.1).trans h)
noncomputable def F48_E(N:Nat):Env:=⟨PG,N,[],[nm 0 [0] [1000000],nm 1 [0] [1000000]],kdL [],[],[],(GL N),tl0,[]⟩
noncomputable def F48_g(N:Nat)(v1:List Int):Option ((T1×Unit)):=
 (some ((v1,0,0,()),()))
noncomputable def F48(N:Nat)(v1:List Int):Option ((T1×Unit)):=
 F48_g N v1
theorem F48_t(N:Nat)(v1:List Int):evF2 (F48_E N) [] Tryz.f35 [.row 5 (.int .u8)] [⟨[.box s1],[none]⟩] (v1,())=F48 N v1:=
 Eq.trans (b:=F48_g N v1) (by kernel_rfl) rfl
noncomputable def F48_con(N:Nat):Con2:=⟨35,[.row 5 (.int .u8)],[⟨[.box s1],[none]⟩],fun x=>F48 N x.1⟩
theorem F48_s(N:Nat):(F48_con N).Sound PG (GL N):=
 Con2.sound_of (c:=F48_con N) (E:=(F48_E N)) (idle:=[]) Tryz.func35 (by kernel_rfl) (by kernel_rfl) ⟨allNil,allNil,rfl⟩ allNil (fun x y h=>(F48_t N x.1).trans h)
noncomputable def F49_E(N:Nat):Env:=⟨PG,N,[],[nm 0 [0] [],nm 1 [0] []],kdL [(157,p1)],[],[],(GL N),tl0,[]⟩
noncomputable def F49_g(N:Nat)(v1:Ce):Option (Int):=
 ((isNilp v1).bind fun v2=>(bif v2 then none else((ptrD p1 v1).bind fun v3=>(some (v3.1.2.1.length:Int)))))
noncomputable def F49(N:Nat)(v1:Ce):Option (Int):=
 F49_g N v1
theorem F49_t(N:Nat)(v1:Ce):evF (F49_E N) [] Tryz.f80 [.k .any] [(.int .i64)] (v1,())=F49 N v1:=
 Eq.trans (b:=F49_g N v1) (by kernel_rfl) rfl
noncomputable def F49_con(N:Nat):Con:=⟨80,[.k .any],[(.int .i64)],fun x=>F49 N x.1⟩
theorem F49_s(N:Nat):(F49_con N).Sound PG (GL N):=
 Con.sound_of (c:=F49_con N) (E:=(F49_E N)) (idle:=[]) Tryz.func80 (by kernel_rfl) (by kernel_rfl) ⟨allNil,allNil,rfl⟩ allNil (fun x y h=>(F49_t N x.1).trans h)
noncomputable def F50_E(N:Nat):Env:=⟨PG,N,[],[nm 0 [0] [],nm 1 [0] []],kdL [(158,p1)],[],[],(GL N),tl0,[]⟩
noncomputable def F50_g(N:Nat)(v1:Ce):Option (Int):=
 ((isNilp v1).bind fun v2=>(bif v2 then none else((ptrD p1 v1).bind fun v3=>(some (v3.1.2.1.length:Int)))))
noncomputable def F50(N:Nat)(v1:Ce):Option (Int):=
 F50_g N v1
theorem F50_t(N:Nat)(v1:Ce):evF (F50_E N) [] Tryz.f82 [.k .any] [(.int .i64)] (v1,())=F50 N v1:=
 Eq.trans (b:=F50_g N v1) (by kernel_rfl) rfl
noncomputable def F50_con(N:Nat):Con:=⟨82,[.k .any],[(.int .i64)],fun x=>F50 N x.1⟩
theorem F50_s(N:Nat):(F50_con N).Sound PG (GL N):=
 Con.sound_of (c:=F50_con N) (E:=(F50_E N)) (idle:=[]) Tryz.func82 (by kernel_rfl) (by kernel_rfl) ⟨allNil,allNil,rfl⟩ allNil (fun x y h=>(F50_t N x.1).trans h)
noncomputable def F51_E(N:Nat):Env:=⟨PG,N,[],[nm 0 [0] [],nm 1 [0] []],kdL [(162,p3)],[],[],(GL N),tl0,[]⟩
noncomputable def F51_g(N:Nat)(v1:Ce):Option (Int):=
 ((isNilp v1).bind fun v2=>(bif v2 then none else((ptrD p3 v1).bind fun v3=>(some (v3.1.2.1.length:Int)))))
noncomputable def F51(N:Nat)(v1:Ce):Option (Int):=
 F51_g N v1
theorem F51_t(N:Nat)(v1:Ce):evF (F51_E N) [] Tryz.f84 [.k .any] [(.int .i64)] (v1,())=F51 N v1:=
 Eq.trans (b:=F51_g N v1) (by kernel_rfl) rfl
noncomputable def F51_con(N:Nat):Con:=⟨84,[.k .any],[(.int .i64)],fun x=>F51 N x.1⟩
theorem F51_s(N:Nat):(F51_con N).Sound PG (GL N):=
 Con.sound_of (c:=F51_con N) (E:=(F51_E N)) (idle:=[]) Tryz.func84 (by kernel_rfl) (by kernel_rfl) ⟨allNil,allNil,rfl⟩ allNil (fun x y h=>(F51_t N x.1).trans h)
noncomputable def F52_E(N:Nat):Env:=⟨PG,N,[],[nm 0 [0] [],nm 1 [0] []],kdL [(165,p2)],[],[],(GL N),tl0,[]⟩
noncomputable def F52_g(N:Nat)(v1:Ce):Option (Int):=
 ((isNilp v1).bind fun v2=>(bif v2 then none else((ptrD p2 v1).bind fun v3=>(some (v3.2.1.length:Int)))))
noncomputable def F52(N:Nat)(v1:Ce):Option (Int):=
 F52_g N v1
theorem F52_t(N:Nat)(v1:Ce):evF (F52_E N) [] Tryz.f86 [.k .any] [(.int .i64)] (v1,())=F52 N v1:=
 Eq.trans (b:=F52_g N v1) (by kernel_rfl) rfl
noncomputable def F52_con(N:Nat):Con:=⟨86,[.k .any],[(.int .i64)],fun x=>F52 N x.1⟩
theorem F52_s(N:Nat):(F52_con N).Sound PG (GL N):=
 Con.sound_of (c:=F52_con N) (E:=(F52_E N)) (idle:=[]) Tryz.func86 (by kernel_rfl) (by kernel_rfl) ⟨allNil,allNil,rfl⟩ allNil (fun x y h=>(F52_t N x.1).trans h)
noncomputable def F53_E(N:Nat):Env:=⟨PG,N,[],[nm 0 [0,1] [],nm 1 [0,1] []],kdL [(165,p2)],[],[],(GL N),tl0,[]⟩
noncomputable def F53_g(N:Nat)(v1:Ce)(v2:Int):Option (Ce):=
 ((isNilp v1).bind fun v3=>(bif v3 then none else((ptrD p2 v1).bind fun v4=>(nth v4.2.1 v2).bind fun v5=>(some v5))))
noncomputable def F53(N:Nat)(v1:Ce)(v2:Int):Option (Ce):=
 F53_g N v1 v2
theorem F53_t(N:Nat)(v1:Ce)(v2:Int):evF (F53_E N) [] Tryz.f87 [.k .any, .k (.int .i64)] [.any] (v1,v2,())=F53 N v1 v2:=
 Eq.trans (b:=F53_g N v1 v2) (by kernel_rfl) rfl
noncomputable def F53_con(N:Nat):Con:=⟨87,[.k .any, .k (.int .i64)],[.any],fun x=>F53 N x.1 x.2.1⟩
theorem F53_s(N:Nat):(F53_con N).Sound PG (GL N):=
 Con.sound_of (c:=F53_con N) (E:=(F53_E N)) (idle:=[]) Tryz.func87 (by kernel_rfl) (by kernel_rfl) ⟨allNil,allNil,rfl⟩ allNil (fun x y h=>(F53_t N x.1 x.2.1).trans h)
noncomputable def F54_E(N:Nat):Env:=⟨PG,N,[],[nm 0 [0,1] [],nm 1 [1,2,3] [2,3],nm 2 [2,3] [2,3]],kdL [],[],[],(GL N),tl0,[]⟩
noncomputable def F54_g(N:Nat)(v1:(Int×Unit))(v2:Int):Option (((Int×Unit)×Unit)):=
 (some ((v2,()),()))
noncomputable def F54(N:Nat)(v1:(Int×Unit))(v2:Int):Option (((Int×Unit)×Unit)):=
 F54_g N v1 v2
theorem F54_t(N:Nat)(v1:(Int×Unit))(v2:Int):evF2 (F54_E N) [] Tryz.f109 [.k p6, .lref (.int .u8)] [⟨[.k p6],[none,none]⟩] (v1,v2,())=F54 N v1 v2:=
 Eq.trans (b:=F54_g N v1 v2) (by kernel_rfl) rfl
noncomputable def F54_con(N:Nat):Con2:=⟨109,[.k p6, .lref (.int .u8)],[⟨[.k p6],[none,none]⟩],fun x=>F54 N x.1 x.2.1⟩
theorem F54_s(N:Nat):(F54_con N).Sound PG (GL N):=
 Con2.sound_of (c:=F54_con N) (E:=(F54_E N)) (idle:=[]) Tryz.func109 (by kernel_rfl) (by kernel_rfl) ⟨allNil,allNil,rfl⟩ allNil (fun x y h=>(F54_t N x.1 x.2.1).trans h)
noncomputable def F55_E(N:Nat):Env:=⟨PG,N,[],[nm 0 [0,1] [1000000,1000001],nm 1 [1,2,4] [2,4,1000000,1000001],nm 2 [2,4,7,8,9] [2,4,1000000,1000001],nm 3 [2,4,7,8,9] [2,4,1000000,1000001],nm 4 [2,4,6,7,8,9] [2,4,1000000,1000001],nm 5 [2,4,7,8,9] [2,4,1000000,1000001],nm 6 [2,4] [2,4,1000000,1000001]],kdL [],[F54_con N],[],(GL N),tl0,[]⟩
noncomputable def F55_g0(N:Nat)(v2:T5)(r0:Int→Int→Option (T15))(v4 v5:Int):Option (T15):=
 (bif(decide ((v4:Int)<1))then(bif(decide (v4=((0:Nat):Int)))then((F54 N (v5,()) v2.1.1.1).bind fun v6=>((r0 (IntKind.i64.wrap (v4+1)) v6.1.1)))else none)else(some ((v5,()),(((v2.1.1.1,()),()),()),())))
noncomputable def F55_l0(N:Nat):Nat→T5→Int→Int→Option (T15)
 |0,_,_,_=>none
 |n+1,v2,v4,v5=>F55_g0 N v2 (F55_l0 N n v2) v4 v5
noncomputable def F55_g(N:Nat)(v1:(Int×Unit))(v2:T5)(c0:T5→Int→Int→Option (T15)):Option (T15):=
 ((c0 v2 0 v1.1))
noncomputable def F55(N:Nat)(v1:(Int×Unit))(v2:T5):Option (T15):=
 F55_g N v1 v2 (F55_l0 N N)
noncomputable def F55_e0(N n:Nat)(v2:T5)(v4 v5:Int):=
 lq (F55_E N) (c107 [1,0,1,0,0]) n ⟨[(2, .ref 2 0),(4, .ref 4 0),(7, .bsl 1000000 1),(8, .pv (.int .i64) 1),(9, .pv (.int .i64) v4)],[(2, .box [.pv (.int .u8) v5]),(4, .box [.pv (.int .u8) 0]),(1000000, .box [.func 109 [.ref 1000001 0]]),(1000001, .box [.pv (.int .u8) v2.1.1.1])],[]⟩ (kBlock 0 (kq (F55_E N) (c107 [1,1]) (kEnd2 (F55_E N) [] Tryz.f107.results.toList a38 [.dead, .bsl 1000000 1])))
theorem F55_t0(N:Nat):∀(n:Nat) (v2:T5) (v4 v5:Int),F55_e0 N n v2 v4 v5=F55_l0 N n v2 v4 v5
 |0,_,_,_=>rfl
 |n+1,v2,v4,v5=>by
  have h:F55_e0 N n v2=F55_l0 N n v2:=by funext v4 v5;exact F55_t0 N n v2 v4 v5
  exact Eq.trans (b:=F55_g0 N v2 (F55_e0 N n v2) v4 v5) (by kernel_rfl) (by rw[h];rfl)
theorem F55_t(N:Nat)(v1:(Int×Unit))(v2:T5):evF2 (F55_E N) [] Tryz.f107 [.k p6, .bsl s4] a38 (v1,v2,())=F55 N v1 v2:=by
 have h0:(F55_e0 N N)=(F55_l0 N N):=by funext v2 v4 v5;exact F55_t0 N N v2 v4 v5
 exact Eq.trans (b:=F55_g N v1 v2 (F55_e0 N N)) (by kernel_rfl) (by rw[h0];rfl)
noncomputable def F55_con(N:Nat):Con2:=⟨107,[.k p6, .bsl s4],a38,fun x=>F55 N x.1 x.2.1⟩
theorem F55_s(N:Nat):(F55_con N).Sound PG (GL N):=
 Con2.sound_of (c:=F55_con N) (E:=(F55_E N)) (idle:=[]) Tryz.func107 (by kernel_rfl) (by kernel_rfl) ⟨allNil,(allCons (F54_s N) allNil),rfl⟩ allNil (fun x y h=>(F55_t N x.1 x.2.1).trans h)
noncomputable def bytes_Buffer_Write(N:Nat)(v1:List Int×Int×Int×Unit)(v2:List Int):Option (T13):=if v1.2.1=0∧v1.1.length+v2.length≤140737488355328 then some ((v2.length:Int),(),(v1.1++v2,0,0,()),())else none
noncomputable def bytes_Buffer_Write_con(N:Nat):Con2:=⟨142,[.box s1, .k (.list (.int .u8))],[⟨[.k (.int .i64), .nili],[some (.box s1),none]⟩],fun x=>bytes_Buffer_Write N x.1 x.2.1⟩
theorem bytes_Buffer_Write_s(N:Nat):(bytes_Buffer_Write_con N).Sound PG (GL N):=WR.write_sound
noncomputable def F56_E(N:Nat):Env:=⟨PG,N,[],[nm 0 [0,1] [1000000,1000001],nm 1 [0,1] [1000000,1000001],nm 2 [0,1,5] [5,1000000,1000001],nm 3 [0,5] [5,1000000,1000001],nm 4 [7] [100801,1000000]],kdL [(5,(.int .u8))],[bytes_Buffer_Write_con N],[2000005],(GL N),tl0,[]⟩
noncomputable def F56_g(N:Nat)(v1:T1)(v2:Int):Option (T21):=
 ((chk 0 1).bind fun v3=>((bytes_Buffer_Write N (v1.1,v1.2.1,v1.2.2.1,()) (([0]:List Int).set v3 v2)).bind fun v4=>(some ((),v4.2.2.1,()))))
noncomputable def F56(N:Nat)(v1:T1)(v2:Int):Option (T21):=
 F56_g N v1 v2
theorem F56_t(N:Nat)(v1:T1)(v2:Int):evF2 (F56_E N) [] Tryz.f70 [.ifc 66 (.box s1), .k (.int .u8)] [⟨[.nili],[some (.ifc 66 (.box s1)),none]⟩] (v1,v2,())=F56 N v1 v2:=
 Eq.trans (b:=F56_g N v1 v2) (by kernel_rfl) rfl
noncomputable def F56_con(N:Nat):Con2:=⟨70,[.ifc 66 (.box s1), .k (.int .u8)],[⟨[.nili],[some (.ifc 66 (.box s1)),none]⟩],fun x=>F56 N x.1 x.2.1⟩
theorem F56_s(N:Nat):(F56_con N).Sound PG (GL N):=
 Con2.sound_of (c:=F56_con N) (E:=(F56_E N)) (idle:=[]) Tryz.func70 (by kernel_rfl) (by kernel_rfl) ⟨allNil,(allCons (bytes_Buffer_Write_s N) allNil),rfl⟩ allNil (fun x y h=>(F56_t N x.1 x.2.1).trans h)
noncomputable def F57_E(N:Nat):Env:=⟨PG,N,[],[nm 0 [0] [],nm 1 [0] []],kdL [],[],[],(GL N),tl0,[]⟩
noncomputable def F57_g(N:Nat)(v1:T14):Option ((Bool×Unit)):=
 (some (((v1.2.2.1.length:Int)==0),()))
noncomputable def F57(N:Nat)(v1:T14):Option ((Bool×Unit)):=
 F57_g N v1
theorem F57_t(N:Nat)(v1:T14):evF2 (F57_E N) [] Tryz.f72 [.lref p4] a39 (v1,())=F57 N v1:=
 Eq.trans (b:=F57_g N v1) (by kernel_rfl) rfl
noncomputable def F57_con(N:Nat):Con2:=⟨72,[.lref p4],a39,fun x=>F57 N x.1⟩
theorem F57_s(N:Nat):(F57_con N).Sound PG (GL N):=
 Con2.sound_of (c:=F57_con N) (E:=(F57_E N)) (idle:=[]) Tryz.func72 (by kernel_rfl) (by kernel_rfl) ⟨allNil,allNil,rfl⟩ allNil (fun x y h=>(F57_t N x.1).trans h)
noncomputable def F58_g1(N:Nat)(self:T12→Option ((Bool×Unit)))(v1:T12)(v40:Int)(r0:Int→Option ((Bool×Unit)))(v78:Bool):Option ((Bool×Unit)):=
 bif v78 then(some (false,()))else((r0 (IntKind.i64.wrap (v40+1))))
noncomputable def F58_j1(N:Nat)(self:T12→Option ((Bool×Unit)))(r0:Int→Option ((Bool×Unit)))(v1:T12)(v40:Int)(v78:Bool):Option ((Bool×Unit)):=
 gate N (F58_g1 N self v1 v40 r0 v78)
noncomputable def F58_g0(N:Nat)(self:T12→Option ((Bool×Unit)))(v1:T12)(c1:Int→Bool→Option ((Bool×Unit)))(r0:Int→Option ((Bool×Unit)))(v40:Int):Option ((Bool×Unit)):=
 (bif(decide ((v40:Int)<(v1.2.1.length:Int)))then((nth v1.2.1 v40).bind fun v41=>((isT 104 v41).bind fun v42=>(bif v42 then((asT .unit 104 v41).bind fun v43=>none)else((isT 105 v41).bind fun v44=>(bif v44 then((asT .unit 105 v41).bind fun v45=>none)else((isT 72 v41).bind fun v46=>(bif v46 then((asT .any 72 v41).bind fun v47=>(ptrD p0 v47).bind fun v48=>(F57 N v48.1).bind fun v49=>(c1 v40 (!v49.1)))else((isT 75 v41).bind fun v50=>(bif v50 then((asT .any 75 v41).bind fun v51=>(ptrD (.pair p0 .unit) v51).bind fun v52=>(F57 N v52.1.1).bind fun v53=>(c1 v40 (!v53.1)))else((isT 78 v41).bind fun v54=>(bif v54 then((asT .any 78 v41).bind fun v55=>(ptrD (.pair p0 .unit) v55).bind fun v56=>(F57 N v56.1.1).bind fun v57=>(c1 v40 (!v57.1)))else((isT 81 v41).bind fun v58=>(bif v58 then((asT .any 81 v41).bind fun v59=>(ptrD p1 v59).bind fun v60=>(F57 N v60.1.1.1).bind fun v61=>(c1 v40 (!v61.1)))else((isT 85 v41).bind fun v62=>(bif v62 then((asT .any 85 v41).bind fun v63=>(ptrD p1 v63).bind fun v64=>(F57 N v64.1.1.1).bind fun v65=>(c1 v40 (!v65.1)))else((isT 91 v41).bind fun v66=>(bif v66 then((asT .any 91 v41).bind fun v67=>(ptrD p1 v67).bind fun v68=>(F57 N v68.1.1.1).bind fun v69=>(c1 v40 (!v69.1)))else((isT 94 v41).bind fun v70=>(bif v70 then((asT .any 94 v41).bind fun v71=>(ptrD p3 v71).bind fun v72=>(F57 N v72.1.1.1).bind fun v73=>(c1 v40 (!v73.1)))else((isT 98 v41).bind fun v74=>(bif v74 then((asT .any 98 v41).bind fun v75=>(ptrD p2 v75).bind fun v76=>(self v76).bind fun v77=>(c1 v40 (!v77.1)))else none)))))))))))))))))))))else(some (true,())))
noncomputable def F58_l0(N:Nat)(self:T12→Option ((Bool×Unit))):Nat→T12→Int→Option ((Bool×Unit))
 |0,_,_=>none
 |n+1,v1,v40=>F58_g0 N self v1 (F58_j1 N self (F58_l0 N self n v1) v1) (F58_l0 N self n v1) v40
noncomputable def F58_g(N:Nat)(self:T12→Option ((Bool×Unit)))(v1:T12)(c0:T12→Int→Option ((Bool×Unit))):Option ((Bool×Unit)):=
 ((c0 v1 0))
noncomputable def F58(N:Nat):Nat→T12→Option ((Bool×Unit))
 |0,_=>none
 |d+1,v1=>F58_g N (F58 N d) v1 (F58_l0 N (F58 N d) N)
noncomputable def F58_con'(N d:Nat):Con2:=⟨106,[.lref p2],a39,fun x=>F58 N d x.1⟩
noncomputable def F58_E(N d:Nat):Env:=⟨PG,N,[],[nm 0 [0] [],nm 1 [0] [],nm 2 [8,9,10] [],nm 3 [8,9,10] [],nm 4 [4,8,9,10] [],ng N 5 [8,9,10,16] [],nm 6 [8,9,10] [],nm 7 [] []],kdL kd0,[F58_con' N d,F57_con N],[],(GL N),tl0,[]⟩
noncomputable def q16(N d:Nat):=kBlock 0 (kq (F58_E N d) (c106 [1,1]) (kEnd2 (F58_E N d) [] Tryz.f106.results.toList a39 [.dead]))
noncomputable def F58_e1(N d m0:Nat)(v1:T12)(v40:Int)(v78:Bool):=
 gate N (evC (F58_E N d) (c106 [1,0,1,0,0,1,1,0,0,1,1]) ⟨[(8, .pv (.list .any) v1.2.1),(9, .pv (.int .i64) (v1.2.1.length:Int)),(10, .pv (.int .i64) v40),(16, .pv .bool v78)],[],[]⟩ (kBlock 1 (kq (F58_E N d) (c106 [1,0,1,0,0,1,1,1]) (kSeq (advOf (F58_E N d) (c106 [1,0,1,0,0])) (fun st K=>lq (F58_E N d) (c106 [1,0,1,0,0]) m0 st K) (q16 N d)))))
noncomputable def F58_e0(N d n:Nat)(v1:T12)(v40:Int):=
 lq (F58_E N d) (c106 [1,0,1,0,0]) n ⟨[(8, .pv (.list .any) v1.2.1),(9, .pv (.int .i64) (v1.2.1.length:Int)),(10, .pv (.int .i64) v40)],[],[]⟩ (q16 N d)
theorem F58_t1(N d m0:Nat)(v1:T12)(v40:Int)(v78:Bool):F58_e1 N d m0 v1 v40 v78=F58_j1 N (F58 N d) (F58_e0 N d m0 v1) v1 v40 v78:=by
 exact(congrArg (gate N) (show _=F58_g1 N (F58 N d) v1 v40 (F58_e0 N d m0 v1) v78 from by kernel_rfl)).trans (by rfl)
theorem F58_t0(N d:Nat):∀(n:Nat) (v1:T12) (v40:Int),F58_e0 N d n v1 v40=F58_l0 N (F58 N d) n v1 v40
 |0,_,_=>rfl
 |n+1,v1,v40=>by
  have h1:(F58_e1 N d n v1)=(F58_j1 N (F58 N d) (F58_e0 N d n v1) v1):=by funext v40 v78;exact F58_t1 N d n v1 v40 v78
  have h:F58_e0 N d n v1=F58_l0 N (F58 N d) n v1:=by funext v40;exact F58_t0 N d n v1 v40
  exact Eq.trans (b:=F58_g0 N (F58 N d) v1 (F58_e1 N d n v1) (F58_e0 N d n v1) v40) (by kernel_rfl) (by rw[h1,h];rfl)
theorem F58_t(N d:Nat)(v1:T12):evF2 (F58_E N d) [] Tryz.f106 [.lref p2] a39 (v1,())=F58 N (d+1) v1:=by
 have h0:(F58_e0 N d N)=(F58_l0 N (F58 N d) N):=by funext v1 v40;exact F58_t0 N d N v1 v40
 exact Eq.trans (b:=F58_g N (F58 N d) v1 (F58_e0 N d N)) (by kernel_rfl) (by rw[h0];rfl)
theorem F58_s'(N:Nat):∀d,(F58_con' N d).Sound PG (GL N)
 |0=>fun _ _ _ _ _ _ _ _ _ _ _ h=>by cases h
 |d+1=>Con2.sound_of (c:=F58_con' N (d+1)) (E:=(F58_E N d)) (idle:=[]) Tryz.func106 (by kernel_rfl) (by kernel_rfl) ⟨allNil,(allCons (F58_s' N d) (allCons (F57_s N) allNil)),rfl⟩ allNil (fun x y h=>(F58_t N d x.1).trans h)
noncomputable def F58_con(N:Nat):Con2:=F58_con' N N
theorem F58_s(N:Nat):(F58_con N).Sound PG (GL N):=F58_s' N N
noncomputable def F59_E(N:Nat):Env:=⟨PG,N,[],[nm 0 [0,1,2] [1000000],nm 1 [1,2] [1000000],nm 2 [1,2] [1000000],nm 3 [1,2] [1000000],nm 4 [1,2] [1000000],nm 5 [1,2] [1000000]],kdL [],[],[],(GL N),tl0,[]⟩
noncomputable def F59_g(N:Nat)(v1:List Int)(v2:Int):Option (((List Int)×Unit)):=
 ((chk 3 v1.length).bind fun v3=>(v1[v3]?).bind fun v4=>((chk 0 v1.length).bind fun v5=>((chk 1 (v1.set v5 (IntKind.u8.wrap (Int.fdiv v2 (2^(min (24:Int).toNat (IntKind.bits .u32)))))).length).bind fun v6=>((chk 2 ((v1.set v5 (IntKind.u8.wrap (Int.fdiv v2 (2^(min (24:Int).toNat (IntKind.bits .u32)))))).set v6 (IntKind.u8.wrap (Int.fdiv v2 (2^(min (16:Int).toNat (IntKind.bits .u32)))))).length).bind fun v7=>((chk 3 (((v1.set v5 (IntKind.u8.wrap (Int.fdiv v2 (2^(min (24:Int).toNat (IntKind.bits .u32)))))).set v6 (IntKind.u8.wrap (Int.fdiv v2 (2^(min (16:Int).toNat (IntKind.bits .u32)))))).set v7 (IntKind.u8.wrap (Int.fdiv v2 (2^(min (8:Int).toNat (IntKind.bits .u32)))))).length).bind fun v8=>some (((((v1.set v5 (IntKind.u8.wrap (Int.fdiv v2 (2^(min (24:Int).toNat (IntKind.bits .u32)))))).set v6 (IntKind.u8.wrap (Int.fdiv v2 (2^(min (16:Int).toNat (IntKind.bits .u32)))))).set v7 (IntKind.u8.wrap (Int.fdiv v2 (2^(min (8:Int).toNat (IntKind.bits .u32)))))).set v8 (IntKind.u8.wrap v2)),()))))))
noncomputable def F59(N:Nat)(v1:List Int)(v2:Int):Option (((List Int)×Unit)):=
 F59_g N v1 v2
theorem F59_t(N:Nat)(v1:List Int)(v2:Int):evF2 (F59_E N) [] Tryz.f170 s12 a41 ((),v1,v2,())=F59 N v1 v2:=
 Eq.trans (b:=F59_g N v1 v2) (by kernel_rfl) rfl
noncomputable def F59_con(N:Nat):Con2:=⟨170,s12,a41,fun x=>F59 N x.2.1 x.2.2.1⟩
theorem F59_s(N:Nat):(F59_con N).Sound PG (GL N):=
 Con2.sound_of (c:=F59_con N) (E:=(F59_E N)) (idle:=[]) Tryz.func170 (by kernel_rfl) (by kernel_rfl) ⟨allNil,allNil,rfl⟩ allNil (fun x y h=>(F59_t N x.2.1 x.2.2.1).trans h)
noncomputable def F60_E(N:Nat):Env:=⟨PG,N,[],[nm 0 [0,1,2] [1000000],nm 1 [1,2] [1000000],nm 2 [1,2] [1000000],nm 3 [1,2] [1000000],nm 4 [1,2] [1000000],nm 5 [1,2] [1000000]],kdL [],[],[],(GL N),tl0,[]⟩
noncomputable def F60_g(N:Nat)(v1:List Int)(v2:Int):Option (((List Int)×Unit)):=
 ((chk 3 v1.length).bind fun v3=>(v1[v3]?).bind fun v4=>((chk 0 v1.length).bind fun v5=>((chk 1 (v1.set v5 (IntKind.u8.wrap v2)).length).bind fun v6=>((chk 2 ((v1.set v5 (IntKind.u8.wrap v2)).set v6 (IntKind.u8.wrap (Int.fdiv v2 (2^(min (8:Int).toNat (IntKind.bits .u32)))))).length).bind fun v7=>((chk 3 (((v1.set v5 (IntKind.u8.wrap v2)).set v6 (IntKind.u8.wrap (Int.fdiv v2 (2^(min (8:Int).toNat (IntKind.bits .u32)))))).set v7 (IntKind.u8.wrap (Int.fdiv v2 (2^(min (16:Int).toNat (IntKind.bits .u32)))))).length).bind fun v8=>some (((((v1.set v5 (IntKind.u8.wrap v2)).set v6 (IntKind.u8.wrap (Int.fdiv v2 (2^(min (8:Int).toNat (IntKind.bits .u32)))))).set v7 (IntKind.u8.wrap (Int.fdiv v2 (2^(min (16:Int).toNat (IntKind.bits .u32)))))).set v8 (IntKind.u8.wrap (Int.fdiv v2 (2^(min (24:Int).toNat (IntKind.bits .u32)))))),()))))))
noncomputable def F60(N:Nat)(v1:List Int)(v2:Int):Option (((List Int)×Unit)):=
 F60_g N v1 v2
theorem F60_t(N:Nat)(v1:List Int)(v2:Int):evF2 (F60_E N) [] Tryz.f178 s12 a41 ((),v1,v2,())=F60 N v1 v2:=
 Eq.trans (b:=F60_g N v1 v2) (by kernel_rfl) rfl
noncomputable def F60_con(N:Nat):Con2:=⟨178,s12,a41,fun x=>F60 N x.2.1 x.2.2.1⟩
theorem F60_s(N:Nat):(F60_con N).Sound PG (GL N):=
 Con2.sound_of (c:=F60_con N) (E:=(F60_E N)) (idle:=[]) Tryz.func178 (by kernel_rfl) (by kernel_rfl) ⟨allNil,allNil,rfl⟩ allNil (fun x y h=>(F60_t N x.2.1 x.2.2.1).trans h)
noncomputable def F61_E(N:Nat):Env:=⟨PG,N,[],[nm 0 [0,1,2] [1000000,1000001],nm 1 [0,1,2] [1000000,1000001],nm 2 [0,1,2,7] [7,1000000,1000001],ng N 3 [0,7] [7,1000000,1000001],nm 4 [9] [101151,1000000]],kdL kd1,[F59_con N,F60_con N,bytes_Buffer_Write_con N],[2000007],(GL N),tl0,[]⟩
noncomputable def F61_g0(N:Nat)(v1:T1)(v44:List Int):Option (T21):=
 (bytes_Buffer_Write N (v1.1,v1.2.1,v1.2.2.1,()) v44).bind fun v45=>(some ((),v45.2.2.1,()))
noncomputable def F61_j0(N:Nat)(v1:T1)(v44:List Int):Option (T21):=
 gate N (F61_g0 N v1 v44)
noncomputable def F61_g(N:Nat)(v1:T1)(v2:Ce)(v3:Int)(c0:T1→(List Int)→Option (T21)):Option (T21):=
 (((isT 104 v2).bind fun v13=>(bif v13 then(some ())else(isT 105 v2).bind fun v12=>(bif v12 then(some ())else(isT 72 v2).bind fun v11=>(bif v11 then none else(isT 75 v2).bind fun v10=>(bif v10 then none else(isT 78 v2).bind fun v9=>(bif v9 then none else(isT 81 v2).bind fun v8=>(bif v8 then none else(isT 85 v2).bind fun v7=>(bif v7 then none else(isT 91 v2).bind fun v6=>(bif v6 then none else(isT 94 v2).bind fun v5=>(bif v5 then none else(isT 98 v2).bind fun v4=>(bif v4 then none else none))))))))))).bind fun _=>(isT 104 v2).bind fun v14=>(bif v14 then((asT .unit 104 v2).bind fun v15=>(F59 N ([0,0,0,0]:List Int) v3).bind fun v16=>(c0 v1 v16.1))else((isT 105 v2).bind fun v17=>(bif v17 then((asT .unit 105 v2).bind fun v18=>(F60 N ([0,0,0,0]:List Int) v3).bind fun v19=>(c0 v1 v19.1))else((isT 72 v2).bind fun v20=>(bif v20 then((asT .any 72 v2).bind fun v21=>none)else((isT 75 v2).bind fun v23=>(bif v23 then((asT .any 75 v2).bind fun v24=>none)else((isT 78 v2).bind fun v26=>(bif v26 then((asT .any 78 v2).bind fun v27=>none)else((isT 81 v2).bind fun v29=>(bif v29 then((asT .any 81 v2).bind fun v30=>none)else((isT 85 v2).bind fun v32=>(bif v32 then((asT .any 85 v2).bind fun v33=>none)else((isT 91 v2).bind fun v35=>(bif v35 then((asT .any 91 v2).bind fun v36=>none)else((isT 94 v2).bind fun v38=>(bif v38 then((asT .any 94 v2).bind fun v39=>none)else((isT 98 v2).bind fun v41=>(bif v41 then((asT .any 98 v2).bind fun v42=>none)else none))))))))))))))))))))
noncomputable def F61(N:Nat)(v1:T1)(v2:Ce)(v3:Int):Option (T21):=
 F61_g N v1 v2 v3 (F61_j0 N)
noncomputable def F61_e0(N:Nat)(v1:T1)(v44:List Int):=
 gate N (evC (F61_E N) (c71 [1,1,1]) ⟨[(0, .iface 66 (.ref 1000000 0)),(7, .pa (.int .u8) 7 4)],[(7, .arr 207 (.int .u8) v44),(1000000, .box [.own (.int .u8) 1000001, .pv (.int .i64) v1.2.1, .pv (.int .i8) v1.2.2.1]),(1000001, .arr 5 (.int .u8) v1.1)],[]⟩ (kEnd2 (F61_E N) [] Tryz.f71.results.toList a8 [.iface 66 (.ref 1000000 0), .dead, .dead]))
theorem F61_t0(N:Nat)(v1:T1)(v44:List Int):F61_e0 N v1 v44=F61_j0 N v1 v44:=by
 exact(congrArg (gate N) (show _=F61_g0 N v1 v44 from by kernel_rfl)).trans (by rfl)
theorem F61_t(N:Nat)(v1:T1)(v2:Ce)(v3:Int):evF2 (F61_E N) [] Tryz.f71 [.ifc 66 (.box s1), .k .any, .k (.int .u32)] a8 (v1,v2,v3,())=F61 N v1 v2 v3:=by
 have h0:(F61_e0 N)=(F61_j0 N):=by funext v1 v44;exact F61_t0 N v1 v44
 exact Eq.trans (b:=F61_g N v1 v2 v3 (F61_e0 N)) (by kernel_rfl) (by rw[h0];rfl)
noncomputable def F61_con(N:Nat):Con2:=⟨71,[.ifc 66 (.box s1), .k .any, .k (.int .u32)],a8,fun x=>F61 N x.1 x.2.1 x.2.2.1⟩
theorem F61_s(N:Nat):(F61_con N).Sound PG (GL N):=
 Con2.sound_of (c:=F61_con N) (E:=(F61_E N)) (idle:=[]) Tryz.func71 (by kernel_rfl) (by kernel_rfl) ⟨allNil,(allCons (F59_s N) (allCons (F60_s N) (allCons (bytes_Buffer_Write_s N) allNil))),rfl⟩ allNil (fun x y h=>(F61_t N x.1 x.2.1 x.2.2.1).trans h)
noncomputable def F62_E(N:Nat):Env:=⟨PG,N,[],[nm 0 [0] [],nm 1 [0] []],kdL [],[],[],(GL N),tl0,[]⟩
noncomputable def F62_g(N:Nat)(v1:T14):Option ((Int×Unit)):=
 (some (v1.2.1,()))
noncomputable def F62(N:Nat)(v1:T14):Option ((Int×Unit)):=
 F62_g N v1
theorem F62_t(N:Nat)(v1:T14):evF2 (F62_E N) [] Tryz.f74 [.lref p4] a32 (v1,())=F62 N v1:=
 Eq.trans (b:=F62_g N v1) (by kernel_rfl) rfl
noncomputable def F62_con(N:Nat):Con2:=⟨74,[.lref p4],a32,fun x=>F62 N x.1⟩
theorem F62_s(N:Nat):(F62_con N).Sound PG (GL N):=
 Con2.sound_of (c:=F62_con N) (E:=(F62_E N)) (idle:=[]) Tryz.func74 (by kernel_rfl) (by kernel_rfl) ⟨allNil,allNil,rfl⟩ allNil (fun x y h=>(F62_t N x.1).trans h)
noncomputable def math_Float64frombits(N:Nat)(v1:Int):Option Nat:=some (v1:Int).toNat
noncomputable def math_Float64frombits_con(N:Nat):Con:=⟨120,[.k (.int .u64)],[.float],fun x=>math_Float64frombits N x.1⟩
theorem math_Float64frombits_s(N:Nat):(math_Float64frombits_con N).Sound PG (GL N):=frombits_of Tryz.func120 (by kernel_rfl) (by kernel_rfl) (by kernel_rfl) (by kernel_rfl)
noncomputable def F63_E(N:Nat):Env:=⟨PG,N,[math_Float64frombits_con N],[nm 0 [] [],nm 1 [] []],kdL [],[],[],(GL N),tl0,[]⟩
noncomputable def F63_g(N:Nat):Option (Nat):=
 ((math_Float64frombits N 9221120237041090560).bind fun v1=>(some v1))
noncomputable def F63(N:Nat):Option (Nat):=
 F63_g N
theorem F63_t(N:Nat):evF (F63_E N) [] Tryz.f111 [] [.float] (())=F63 N:=
 Eq.trans (b:=F63_g N) (by kernel_rfl) rfl
noncomputable def F63_con(N:Nat):Con:=⟨111,[],[.float],fun x=>F63 N⟩
theorem F63_s(N:Nat):(F63_con N).Sound PG (GL N):=
 Con.sound_of (c:=F63_con N) (E:=(F63_E N)) (idle:=[]) Tryz.func111 (by kernel_rfl) (by kernel_rfl) ⟨(allCons (math_Float64frombits_s N) allNil),allNil,rfl⟩ allNil (fun x y h=>(F63_t N).trans h)
noncomputable def math_Float64bits(N v1:Nat):Option Int:=some ((v1:Nat):Int)
noncomputable def math_Float64bits_con(N:Nat):Con:=⟨62,[.k .float],[(.int .u64)],fun x=>math_Float64bits N x.1⟩
theorem math_Float64bits_s(N:Nat):(math_Float64bits_con N).Sound PG (GL N):=bits_of Tryz.func62 (by kernel_rfl) (by kernel_rfl) (by kernel_rfl) (by kernel_rfl)
noncomputable def F64_E(N:Nat):Env:=⟨PG,N,[],[nm 0 [0,1,2] [1000000],nm 1 [1,2] [1000000],nm 2 [1,2] [1000000],nm 3 [1,2] [1000000],nm 4 [1,2] [1000000],nm 5 [1,2] [1000000],nm 6 [1,2] [1000000],nm 7 [1,2] [1000000],nm 8 [1,2] [1000000],nm 9 [1,2] [1000000]],kdL [],[],[],(GL N),tl0,[]⟩
noncomputable def F64_g(N:Nat)(v1:T23)(v2:Int):Option ((T23×Unit)):=
 ((chk 7 v1.2.2).bind fun v3=>(v1.1[(v1.2.1+v3)]?).bind fun v4=>((chk 0 v1.2.2).bind fun v5=>((chk 1 v1.2.2).bind fun v6=>((chk 2 v1.2.2).bind fun v7=>((chk 3 v1.2.2).bind fun v8=>((chk 4 v1.2.2).bind fun v9=>((chk 5 v1.2.2).bind fun v10=>((chk 6 v1.2.2).bind fun v11=>((chk 7 v1.2.2).bind fun v12=>some ((((((((((v1.1.set (v1.2.1+v5) (IntKind.u8.wrap (Int.fdiv v2 (2^(min (56:Int).toNat (IntKind.bits .u64)))))).set (v1.2.1+v6) (IntKind.u8.wrap (Int.fdiv v2 (2^(min (48:Int).toNat (IntKind.bits .u64)))))).set (v1.2.1+v7) (IntKind.u8.wrap (Int.fdiv v2 (2^(min (40:Int).toNat (IntKind.bits .u64)))))).set (v1.2.1+v8) (IntKind.u8.wrap (Int.fdiv v2 (2^(min (32:Int).toNat (IntKind.bits .u64)))))).set (v1.2.1+v9) (IntKind.u8.wrap (Int.fdiv v2 (2^(min (24:Int).toNat (IntKind.bits .u64)))))).set (v1.2.1+v10) (IntKind.u8.wrap (Int.fdiv v2 (2^(min (16:Int).toNat (IntKind.bits .u64)))))).set (v1.2.1+v11) (IntKind.u8.wrap (Int.fdiv v2 (2^(min (8:Int).toNat (IntKind.bits .u64)))))).set (v1.2.1+v12) (IntKind.u8.wrap v2)),v1.2.1,v1.2.2),()))))))))))
noncomputable def F64(N:Nat)(v1:T23)(v2:Int):Option ((T23×Unit)):=
 F64_g N v1 v2
theorem F64_t(N:Nat)(v1:T23)(v2:Int):evF2 (F64_E N) [] Tryz.f171 s14 a42 ((),v1,v2,())=F64 N v1 v2:=
 Eq.trans (b:=F64_g N v1 v2) (by kernel_rfl) rfl
noncomputable def F64_con(N:Nat):Con2:=⟨171,s14,a42,fun x=>F64 N x.2.1 x.2.2.1⟩
theorem F64_s(N:Nat):(F64_con N).Sound PG (GL N):=
 Con2.sound_of (c:=F64_con N) (E:=(F64_E N)) (idle:=[]) Tryz.func171 (by kernel_rfl) (by kernel_rfl) ⟨allNil,allNil,rfl⟩ allNil (fun x y h=>(F64_t N x.2.1 x.2.2.1).trans h)
noncomputable def F65_E(N:Nat):Env:=⟨PG,N,[],[nm 0 [0,1,2] [1000000],nm 1 [1,2] [1000000],nm 2 [1,2] [1000000],nm 3 [1,2] [1000000],nm 4 [1,2] [1000000],nm 5 [1,2] [1000000],nm 6 [1,2] [1000000],nm 7 [1,2] [1000000],nm 8 [1,2] [1000000],nm 9 [1,2] [1000000]],kdL [],[],[],(GL N),tl0,[]⟩
noncomputable def F65_g(N:Nat)(v1:T23)(v2:Int):Option ((T23×Unit)):=
 ((chk 7 v1.2.2).bind fun v3=>(v1.1[(v1.2.1+v3)]?).bind fun v4=>((chk 0 v1.2.2).bind fun v5=>((chk 1 v1.2.2).bind fun v6=>((chk 2 v1.2.2).bind fun v7=>((chk 3 v1.2.2).bind fun v8=>((chk 4 v1.2.2).bind fun v9=>((chk 5 v1.2.2).bind fun v10=>((chk 6 v1.2.2).bind fun v11=>((chk 7 v1.2.2).bind fun v12=>some ((((((((((v1.1.set (v1.2.1+v5) (IntKind.u8.wrap v2)).set (v1.2.1+v6) (IntKind.u8.wrap (Int.fdiv v2 (2^(min (8:Int).toNat (IntKind.bits .u64)))))).set (v1.2.1+v7) (IntKind.u8.wrap (Int.fdiv v2 (2^(min (16:Int).toNat (IntKind.bits .u64)))))).set (v1.2.1+v8) (IntKind.u8.wrap (Int.fdiv v2 (2^(min (24:Int).toNat (IntKind.bits .u64)))))).set (v1.2.1+v9) (IntKind.u8.wrap (Int.fdiv v2 (2^(min (32:Int).toNat (IntKind.bits .u64)))))).set (v1.2.1+v10) (IntKind.u8.wrap (Int.fdiv v2 (2^(min (40:Int).toNat (IntKind.bits .u64)))))).set (v1.2.1+v11) (IntKind.u8.wrap (Int.fdiv v2 (2^(min (48:Int).toNat (IntKind.bits .u64)))))).set (v1.2.1+v12) (IntKind.u8.wrap (Int.fdiv v2 (2^(min (56:Int).toNat (IntKind.bits .u64)))))),v1.2.1,v1.2.2),()))))))))))
noncomputable def F65(N:Nat)(v1:T23)(v2:Int):Option ((T23×Unit)):=
 F65_g N v1 v2
theorem F65_t(N:Nat)(v1:T23)(v2:Int):evF2 (F65_E N) [] Tryz.f179 s14 a42 ((),v1,v2,())=F65 N v1 v2:=
 Eq.trans (b:=F65_g N v1 v2) (by kernel_rfl) rfl
noncomputable def F65_con(N:Nat):Con2:=⟨179,s14,a42,fun x=>F65 N x.2.1 x.2.2.1⟩
theorem F65_s(N:Nat):(F65_con N).Sound PG (GL N):=
 Con2.sound_of (c:=F65_con N) (E:=(F65_E N)) (idle:=[]) Tryz.func179 (by kernel_rfl) (by kernel_rfl) ⟨allNil,allNil,rfl⟩ allNil (fun x y h=>(F65_t N x.2.1 x.2.2.1).trans h)
noncomputable def F66_E(N:Nat):Env:=⟨PG,N,[math_Float64bits_con N],[nm 0 [0,1,2] [1000000],nm 1 [0,1,6] [1000000]],kdL kd2,[F64_con N,F65_con N],[],(GL N),tl0,[]⟩
noncomputable def F66_g(N:Nat)(v1:T23)(v2:Ce)(v3:Nat):Option ((T23×Unit)):=
 (math_Float64bits N v3).bind fun v4=>((isT 104 v2).bind fun v5=>(bif v5 then((asT .unit 104 v2).bind fun v6=>(F64 N (v1.1,v1.2.1,v1.2.2) v4).bind fun v7=>(bif((((Nat.ble 1 v1.2.2&&Nat.beq v7.1.2.1 v1.2.1)&&Nat.beq v7.1.2.2 v1.2.2)&&Nat.beq v7.1.1.length v1.1.length)&&true)then(some ((v7.1.1,v1.2.1,v1.2.2),()))else none))else((isT 105 v2).bind fun v8=>(bif v8 then((asT .unit 105 v2).bind fun v9=>(F65 N (v1.1,v1.2.1,v1.2.2) v4).bind fun v10=>(bif((((Nat.ble 1 v1.2.2&&Nat.beq v10.1.2.1 v1.2.1)&&Nat.beq v10.1.2.2 v1.2.2)&&Nat.beq v10.1.1.length v1.1.length)&&true)then(some ((v10.1.1,v1.2.1,v1.2.2),()))else none))else((isT 72 v2).bind fun v11=>(bif v11 then((asT .any 72 v2).bind fun v12=>none)else((isT 75 v2).bind fun v14=>(bif v14 then((asT .any 75 v2).bind fun v15=>none)else((isT 78 v2).bind fun v17=>(bif v17 then((asT .any 78 v2).bind fun v18=>none)else((isT 81 v2).bind fun v20=>(bif v20 then((asT .any 81 v2).bind fun v21=>none)else((isT 85 v2).bind fun v23=>(bif v23 then((asT .any 85 v2).bind fun v24=>none)else((isT 91 v2).bind fun v26=>(bif v26 then((asT .any 91 v2).bind fun v27=>none)else((isT 94 v2).bind fun v29=>(bif v29 then((asT .any 94 v2).bind fun v30=>none)else((isT 98 v2).bind fun v32=>(bif v32 then((asT .any 98 v2).bind fun v33=>none)else none))))))))))))))))))))
noncomputable def F66(N:Nat)(v1:T23)(v2:Ce)(v3:Nat):Option ((T23×Unit)):=
 F66_g N v1 v2 v3
theorem F66_t(N:Nat)(v1:T23)(v2:Ce)(v3:Nat):evF2 (F66_E N) [] Tryz.f121 [.sub 5 (.int .u8), .k .any, .k .float] [⟨[],[some (.sub 5 (.int .u8)),none,none]⟩] (v1,v2,v3,())=F66 N v1 v2 v3:=
 Eq.trans (b:=F66_g N v1 v2 v3) (by kernel_rfl) rfl
noncomputable def F66_con(N:Nat):Con2:=⟨121,[.sub 5 (.int .u8), .k .any, .k .float],[⟨[],[some (.sub 5 (.int .u8)),none,none]⟩],fun x=>F66 N x.1 x.2.1 x.2.2.1⟩
theorem F66_s(N:Nat):(F66_con N).Sound PG (GL N):=
 Con2.sound_of (c:=F66_con N) (E:=(F66_E N)) (idle:=[]) Tryz.func121 (by kernel_rfl) (by kernel_rfl) ⟨(allCons (math_Float64bits_s N) allNil),(allCons (F64_s N) (allCons (F65_s N) allNil)),rfl⟩ allNil (fun x y h=>(F66_t N x.1 x.2.1 x.2.2.1).trans h)
noncomputable def F67_E(N:Nat):Env:=⟨PG,N,[],[nm 0 [0,1,2] [1000000,1000001,1000002],nm 1 [0,1,2] [1000000,1000001,1000002],nm 2 [0,1,2,7] [15,1000000,1000001,1000002],nm 3 [0,1,7,16,17,18] [15,1000000,1000001,1000002],nm 4 [0,1,7,16,17,18] [15,1000000,1000001,1000002],nm 5 [0,1,7,8,9,16,17,18] [15,1000000,1000001,1000002],nm 6 [0,1,7,16,17,18] [15,1000000,1000001,1000002],nm 7 [0,7] [15,1000000,1000001,1000002],nm 8 [11] [101701,1000000,1000002]],kdL [(5,(.int .u8))],[F66_con N,bytes_Buffer_Write_con N],[],(GL N),tl0,[]⟩
noncomputable def F67_g0(N:Nat)(v2:Ce)(v3:List Nat)(v1:T1)(r0:Int→(List Int)→Option (T19))(v9:Int)(v10:List Int):Option (T19):=
 (bif(decide ((v9:Int)<(v3.length:Int)))then((chk v9 v3.length).bind fun v11=>(v3[v11]?).bind fun v12=>((chk2 (IntKind.i64.wrap (8*v9)) (v10.length:Int) v10.length).bind fun v13=>(F66 N (v10,v13.1,(v13.2-v13.1)) v2 v12).bind fun v14=>(bif((((Nat.ble 1 (v13.2-v13.1)&&Nat.beq v14.1.2.1 v13.1)&&Nat.beq v14.1.2.2 (v13.2-v13.1))&&Nat.beq v14.1.1.length v10.length)&&true)then((r0 (IntKind.i64.wrap (v9+1)) v14.1.1))else none)))else((bytes_Buffer_Write N (v1.1,v1.2.1,v1.2.2.1,()) v10).bind fun v15=>(some ((),v15.2.2.1,v3,()))))
noncomputable def F67_l0(N:Nat):Nat→Ce→(List Nat)→T1→Int→(List Int)→Option (T19)
 |0,_,_,_,_,_=>none
 |n+1,v2,v3,v1,v9,v10=>F67_g0 N v2 v3 v1 (F67_l0 N n v2 v3 v1) v9 v10
noncomputable def F67_g(N:Nat)(v1:T1)(v2:Ce)(v3:List Nat)(c0:Ce→(List Nat)→T1→Int→(List Int)→Option (T19)):Option (T19):=
 ((mkn (IntKind.i64.wrap (8*(v3.length:Int))) (IntKind.i64.wrap (8*(v3.length:Int))) 1).bind fun v4=>((c0 v2 v3 v1 0 (List.replicate v4 (0:Int)))))
noncomputable def F67(N:Nat)(v1:T1)(v2:Ce)(v3:List Nat):Option (T19):=
 F67_g N v1 v2 v3 (F67_l0 N N)
noncomputable def F67_e0(N n:Nat)(v2:Ce)(v3:List Nat)(v1:T1)(v9:Int)(v10:List Int):=
 lq (F67_E N) (c112 [1,1,0,1,0,0]) n ⟨[(0, .iface 66 (.ref 1000000 0)),(1, .pv .any v2),(7, .own (.int .u8) 15),(16, .own .float 1000002),(17, .pv (.int .i64) (v3.length:Int)),(18, .pv (.int .i64) v9)],[(15, .arr 5 (.int .u8) v10),(1000000, .box [.own (.int .u8) 1000001, .pv (.int .i64) v1.2.1, .pv (.int .i8) v1.2.2.1]),(1000001, .arr 5 (.int .u8) v1.1),(1000002, .arr 65 .float v3)],[]⟩ (kBlock 0 (kq (F67_E N) (c112 [1,1,1]) (kEnd2 (F67_E N) [] Tryz.f112.results.toList a28 [.iface 66 (.ref 1000000 0), .dead, .own .float 1000002])))
theorem F67_t0(N:Nat):∀(n:Nat) (v2:Ce) (v3:List Nat) (v1:T1) (v9:Int) (v10:List Int),F67_e0 N n v2 v3 v1 v9 v10=F67_l0 N n v2 v3 v1 v9 v10
 |0,_,_,_,_,_=>rfl
 |n+1,v2,v3,v1,v9,v10=>by
  have h:F67_e0 N n v2 v3 v1=F67_l0 N n v2 v3 v1:=by funext v9 v10;exact F67_t0 N n v2 v3 v1 v9 v10
  exact Eq.trans (b:=F67_g0 N v2 v3 v1 (F67_e0 N n v2 v3 v1) v9 v10) (by kernel_rfl) (by rw[h];rfl)
theorem F67_t(N:Nat)(v1:T1)(v2:Ce)(v3:List Nat):evF2 (F67_E N) [] Tryz.f112 s15 a28 (v1,v2,v3,())=F67 N v1 v2 v3:=by
 have h0:(F67_e0 N N)=(F67_l0 N N):=by funext v2 v3 v1 v9 v10;exact F67_t0 N N v2 v3 v1 v9 v10
 exact Eq.trans (b:=F67_g N v1 v2 v3 (F67_e0 N N)) (by kernel_rfl) (by rw[h0];rfl)
noncomputable def F67_con(N:Nat):Con2:=⟨112,s15,a28,fun x=>F67 N x.1 x.2.1 x.2.2.1⟩
theorem F67_s(N:Nat):(F67_con N).Sound PG (GL N):=
 Con2.sound_of (c:=F67_con N) (E:=(F67_E N)) (idle:=[]) Tryz.func112 (by kernel_rfl) (by kernel_rfl) ⟨allNil,(allCons (F66_s N) (allCons (bytes_Buffer_Write_s N) allNil)),rfl⟩ allNil (fun x y h=>(F67_t N x.1 x.2.1 x.2.2.1).trans h)
noncomputable def F68_E(N:Nat):Env:=⟨PG,N,[],[nm 0 [0,1,2] [1000000,1000001,1000002],nm 1 [0,1,2] [1000000,1000001,1000002]],kdL [],[F67_con N],[],(GL N),tl0,[]⟩
noncomputable def F68_g(N:Nat)(v1:T1)(v2:Ce)(v3:List Nat):Option (T19):=
 ((F67 N (v1.1,v1.2.1,v1.2.2.1,()) v2 v3).bind fun v4=>(some ((),v4.2.1,v4.2.2.1,())))
noncomputable def F68(N:Nat)(v1:T1)(v2:Ce)(v3:List Nat):Option (T19):=
 F68_g N v1 v2 v3
theorem F68_t(N:Nat)(v1:T1)(v2:Ce)(v3:List Nat):evF2 (F68_E N) [] Tryz.f75 s15 a28 (v1,v2,v3,())=F68 N v1 v2 v3:=
 Eq.trans (b:=F68_g N v1 v2 v3) (by kernel_rfl) rfl
noncomputable def F68_con(N:Nat):Con2:=⟨75,s15,a28,fun x=>F68 N x.1 x.2.1 x.2.2.1⟩
theorem F68_s(N:Nat):(F68_con N).Sound PG (GL N):=
 Con2.sound_of (c:=F68_con N) (E:=(F68_E N)) (idle:=[]) Tryz.func75 (by kernel_rfl) (by kernel_rfl) ⟨allNil,(allCons (F67_s N) allNil),rfl⟩ allNil (fun x y h=>(F68_t N x.1 x.2.1 x.2.2.1).trans h)
noncomputable def F69_E(N:Nat):Env:=⟨PG,N,[F63_con N],[nm 0 [0,1,2] [1000000,1000001],nm 1 [0,1,2] [1000000,1000001],nm 2 [0,1,2,7] [10,1000000,1000001],nm 3 [0,1,7,11,12] [10,1000000,1000001],nm 4 [0,1,7,11,12] [10,1000000,1000001],nm 5 [0,1,7,8,11,12] [10,1000000,1000001],nm 6 [0,1,7,11,12] [10,1000000,1000001],nm 7 [0,1,7] [10,1000000,1000001]],kdL [(65, .float)],[F68_con N],[],(GL N),tl0,[]⟩
noncomputable def F69_g0(N:Nat)(v2:Ce)(v3:Int)(v1:T1)(r0:Int→(List Nat)→Option (T21))(v7:Int)(v8:List Nat):Option (T21):=
 (bif(decide ((v7:Int)<v3))then((F63 N).bind fun v9=>(chk v7 v8.length).bind fun v10=>((r0 (IntKind.i64.wrap (v7+1)) (v8.set v10 v9))))else((F68 N (v1.1,v1.2.1,v1.2.2.1,()) v2 v8).bind fun v11=>(some ((),v11.2.1,()))))
noncomputable def F69_l0(N:Nat):Nat→Ce→Int→T1→Int→(List Nat)→Option (T21)
 |0,_,_,_,_,_=>none
 |n+1,v2,v3,v1,v7,v8=>F69_g0 N v2 v3 v1 (F69_l0 N n v2 v3 v1) v7 v8
noncomputable def F69_g(N:Nat)(v1:T1)(v2:Ce)(v3:Int)(c0:Ce→Int→T1→Int→(List Nat)→Option (T21)):Option (T21):=
 ((mkn v3 v3 8).bind fun v4=>((c0 v2 v3 v1 0 (List.replicate v4 (0:Nat)))))
noncomputable def F69(N:Nat)(v1:T1)(v2:Ce)(v3:Int):Option (T21):=
 F69_g N v1 v2 v3 (F69_l0 N N)
noncomputable def F69_e0(N n:Nat)(v2:Ce)(v3:Int)(v1:T1)(v7:Int)(v8:List Nat):=
 lq (F69_E N) (c73 [1,1,0,1,0,0]) n ⟨[(0, .iface 66 (.ref 1000000 0)),(1, .pv .any v2),(7, .own .float 10),(11, .pv (.int .i64) v3),(12, .pv (.int .i64) v7)],[(10, .arr 65 .float v8),(1000000, .box [.own (.int .u8) 1000001, .pv (.int .i64) v1.2.1, .pv (.int .i8) v1.2.2.1]),(1000001, .arr 5 (.int .u8) v1.1)],[]⟩ (kBlock 0 (kq (F69_E N) (c73 [1,1,1]) (kEnd2 (F69_E N) [] Tryz.f73.results.toList a8 [.iface 66 (.ref 1000000 0), .dead, .dead])))
theorem F69_t0(N:Nat):∀(n:Nat) (v2:Ce) (v3:Int) (v1:T1) (v7:Int) (v8:List Nat),F69_e0 N n v2 v3 v1 v7 v8=F69_l0 N n v2 v3 v1 v7 v8
 |0,_,_,_,_,_=>rfl
 |n+1,v2,v3,v1,v7,v8=>by
  have h:F69_e0 N n v2 v3 v1=F69_l0 N n v2 v3 v1:=by funext v7 v8;exact F69_t0 N n v2 v3 v1 v7 v8
  exact Eq.trans (b:=F69_g0 N v2 v3 v1 (F69_e0 N n v2 v3 v1) v7 v8) (by kernel_rfl) (by rw[h];rfl)
theorem F69_t(N:Nat)(v1:T1)(v2:Ce)(v3:Int):evF2 (F69_E N) [] Tryz.f73 [.ifc 66 (.box s1), .k .any, .k (.int .i64)] a8 (v1,v2,v3,())=F69 N v1 v2 v3:=by
 have h0:(F69_e0 N N)=(F69_l0 N N):=by funext v2 v3 v1 v7 v8;exact F69_t0 N N v2 v3 v1 v7 v8
 exact Eq.trans (b:=F69_g N v1 v2 v3 (F69_e0 N N)) (by kernel_rfl) (by rw[h0];rfl)
noncomputable def F69_con(N:Nat):Con2:=⟨73,[.ifc 66 (.box s1), .k .any, .k (.int .i64)],a8,fun x=>F69 N x.1 x.2.1 x.2.2.1⟩
theorem F69_s(N:Nat):(F69_con N).Sound PG (GL N):=
 Con2.sound_of (c:=F69_con N) (E:=(F69_E N)) (idle:=[]) Tryz.func73 (by kernel_rfl) (by kernel_rfl) ⟨(allCons (F63_s N) allNil),(allCons (F68_s N) allNil),rfl⟩ allNil (fun x y h=>(F69_t N x.1 x.2.1 x.2.2.1).trans h)
noncomputable def F70_E(N:Nat):Env:=⟨PG,N,[],[nm 0 [0] [],nm 1 [0] []],kdL [],[],[],(GL N),tl0,[]⟩
noncomputable def F70_g(N:Nat)(v1:ByteArray):Option (((ByteArray×Unit)×Unit)):=
 (some ((v1,()),()))
noncomputable def F70(N:Nat)(v1:ByteArray):Option (((ByteArray×Unit)×Unit)):=
 F70_g N v1
theorem F70_t(N:Nat)(v1:ByteArray):evF2 (F70_E N) [] Tryz.f108 [.k .str] [⟨[.ifc 222 (.box [.k .str])],[none]⟩] (v1,())=F70 N v1:=
 Eq.trans (b:=F70_g N v1) (by kernel_rfl) rfl
noncomputable def F70_con(N:Nat):Con2:=⟨108,[.k .str],[⟨[.ifc 222 (.box [.k .str])],[none]⟩],fun x=>F70 N x.1⟩
theorem F70_s(N:Nat):(F70_con N).Sound PG (GL N):=
 Con2.sound_of (c:=F70_con N) (E:=(F70_E N)) (idle:=[]) Tryz.func108 (by kernel_rfl) (by kernel_rfl) ⟨allNil,allNil,rfl⟩ allNil (fun x y h=>(F70_t N x.1).trans h)
noncomputable def F71_E(N:Nat):Env:=⟨PG,N,[],[nm 0 [0] [],nm 1 [0] []],kdL [],[],[],(GL N),tl0,[]⟩
noncomputable def F71_g(N:Nat)(v1:T14):Option (((List Nat)×Unit)):=
 (some (v1.2.2.1,()))
noncomputable def F71(N:Nat)(v1:T14):Option (((List Nat)×Unit)):=
 F71_g N v1
theorem F71_t(N:Nat)(v1:T14):evF2 (F71_E N) [] Tryz.f76 [.lref p4] [⟨[.k (.list .float)],[none]⟩] (v1,())=F71 N v1:=
 Eq.trans (b:=F71_g N v1) (by kernel_rfl) rfl
noncomputable def F71_con(N:Nat):Con2:=⟨76,[.lref p4],[⟨[.k (.list .float)],[none]⟩],fun x=>F71 N x.1⟩
theorem F71_s(N:Nat):(F71_con N).Sound PG (GL N):=
 Con2.sound_of (c:=F71_con N) (E:=(F71_E N)) (idle:=[]) Tryz.func76 (by kernel_rfl) (by kernel_rfl) ⟨allNil,allNil,rfl⟩ allNil (fun x y h=>(F71_t N x.1).trans h)
noncomputable def F72_E(N:Nat):Env:=⟨PG,N,[],[nm 0 [0,1,2] [1000000,1000001],nm 1 [0,1,2] [1000000,1000001],nm 2 [0,1,2,7] [15,1000000,1000001],nm 3 [0,1,7,16,17,18] [15,1000000,1000001],nm 4 [0,1,7,16,17,18] [15,1000000,1000001],nm 5 [0,1,7,8,9,16,17,18] [15,1000000,1000001],nm 6 [0,1,7,16,17,18] [15,1000000,1000001],nm 7 [0,7] [15,1000000,1000001],nm 8 [11] [101701,1000000]],kdL [(5,(.int .u8))],[F66_con N,bytes_Buffer_Write_con N],[],(GL N),tl0,[]⟩
noncomputable def F72_g0(N:Nat)(v2:Ce)(v3:List Nat)(v1:T1)(r0:Int→(List Int)→Option (T21))(v8:Int)(v9:List Int):Option (T21):=
 (bif(decide ((v8:Int)<(v3.length:Int)))then((nth v3 v8).bind fun v10=>((chk2 (IntKind.i64.wrap (8*v8)) (v9.length:Int) v9.length).bind fun v11=>(F66 N (v9,v11.1,(v11.2-v11.1)) v2 v10).bind fun v12=>(bif((((Nat.ble 1 (v11.2-v11.1)&&Nat.beq v12.1.2.1 v11.1)&&Nat.beq v12.1.2.2 (v11.2-v11.1))&&Nat.beq v12.1.1.length v9.length)&&true)then((r0 (IntKind.i64.wrap (v8+1)) v12.1.1))else none)))else((bytes_Buffer_Write N (v1.1,v1.2.1,v1.2.2.1,()) v9).bind fun v13=>(some ((),v13.2.2.1,()))))
noncomputable def F72_l0(N:Nat):Nat→Ce→(List Nat)→T1→Int→(List Int)→Option (T21)
 |0,_,_,_,_,_=>none
 |n+1,v2,v3,v1,v8,v9=>F72_g0 N v2 v3 v1 (F72_l0 N n v2 v3 v1) v8 v9
noncomputable def F72_g(N:Nat)(v1:T1)(v2:Ce)(v3:List Nat)(c0:Ce→(List Nat)→T1→Int→(List Int)→Option (T21)):Option (T21):=
 ((mkn (IntKind.i64.wrap (8*(v3.length:Int))) (IntKind.i64.wrap (8*(v3.length:Int))) 1).bind fun v4=>((c0 v2 v3 v1 0 (List.replicate v4 (0:Int)))))
noncomputable def F72(N:Nat)(v1:T1)(v2:Ce)(v3:List Nat):Option (T21):=
 F72_g N v1 v2 v3 (F72_l0 N N)
noncomputable def F72_e0(N n:Nat)(v2:Ce)(v3:List Nat)(v1:T1)(v8:Int)(v9:List Int):=
 lq (F72_E N) (c112 [1,1,0,1,0,0]) n ⟨[(0, .iface 66 (.ref 1000000 0)),(1, .pv .any v2),(7, .own (.int .u8) 15),(16, .pv (.list .float) v3),(17, .pv (.int .i64) (v3.length:Int)),(18, .pv (.int .i64) v8)],[(15, .arr 5 (.int .u8) v9),(1000000, .box [.own (.int .u8) 1000001, .pv (.int .i64) v1.2.1, .pv (.int .i8) v1.2.2.1]),(1000001, .arr 5 (.int .u8) v1.1)],[]⟩ (kBlock 0 (kq (F72_E N) (c112 [1,1,1]) (kEnd2 (F72_E N) [] Tryz.f112.results.toList a8 [.iface 66 (.ref 1000000 0), .dead, .dead])))
theorem F72_t0(N:Nat):∀(n:Nat) (v2:Ce) (v3:List Nat) (v1:T1) (v8:Int) (v9:List Int),F72_e0 N n v2 v3 v1 v8 v9=F72_l0 N n v2 v3 v1 v8 v9
 |0,_,_,_,_,_=>rfl
 |n+1,v2,v3,v1,v8,v9=>by
  have h:F72_e0 N n v2 v3 v1=F72_l0 N n v2 v3 v1:=by funext v8 v9;exact F72_t0 N n v2 v3 v1 v8 v9
  exact Eq.trans (b:=F72_g0 N v2 v3 v1 (F72_e0 N n v2 v3 v1) v8 v9) (by kernel_rfl) (by rw[h];rfl)
theorem F72_t(N:Nat)(v1:T1)(v2:Ce)(v3:List Nat):evF2 (F72_E N) [] Tryz.f112 s13 a8 (v1,v2,v3,())=F72 N v1 v2 v3:=by
 have h0:(F72_e0 N N)=(F72_l0 N N):=by funext v2 v3 v1 v8 v9;exact F72_t0 N N v2 v3 v1 v8 v9
 exact Eq.trans (b:=F72_g N v1 v2 v3 (F72_e0 N N)) (by kernel_rfl) (by rw[h0];rfl)
noncomputable def F72_con(N:Nat):Con2:=⟨112,s13,a8,fun x=>F72 N x.1 x.2.1 x.2.2.1⟩
theorem F72_s(N:Nat):(F72_con N).Sound PG (GL N):=
 Con2.sound_of (c:=F72_con N) (E:=(F72_E N)) (idle:=[]) Tryz.func112 (by kernel_rfl) (by kernel_rfl) ⟨allNil,(allCons (F66_s N) (allCons (bytes_Buffer_Write_s N) allNil)),rfl⟩ allNil (fun x y h=>(F72_t N x.1 x.2.1 x.2.2.1).trans h)
noncomputable def F73_E(N:Nat):Env:=⟨PG,N,[],[nm 0 [0,1,2] [1000000,1000001],nm 1 [0,1,2] [1000000,1000001]],kdL [],[F72_con N],[],(GL N),tl0,[]⟩
noncomputable def F73_g(N:Nat)(v1:T1)(v2:Ce)(v3:List Nat):Option (T21):=
 ((F72 N (v1.1,v1.2.1,v1.2.2.1,()) v2 v3).bind fun v4=>(some ((),v4.2.1,())))
noncomputable def F73(N:Nat)(v1:T1)(v2:Ce)(v3:List Nat):Option (T21):=
 F73_g N v1 v2 v3
theorem F73_t(N:Nat)(v1:T1)(v2:Ce)(v3:List Nat):evF2 (F73_E N) [] Tryz.f75 s13 a8 (v1,v2,v3,())=F73 N v1 v2 v3:=
 Eq.trans (b:=F73_g N v1 v2 v3) (by kernel_rfl) rfl
noncomputable def F73_con(N:Nat):Con2:=⟨75,s13,a8,fun x=>F73 N x.1 x.2.1 x.2.2.1⟩
theorem F73_s(N:Nat):(F73_con N).Sound PG (GL N):=
 Con2.sound_of (c:=F73_con N) (E:=(F73_E N)) (idle:=[]) Tryz.func75 (by kernel_rfl) (by kernel_rfl) ⟨allNil,(allCons (F72_s N) allNil),rfl⟩ allNil (fun x y h=>(F73_t N x.1 x.2.1 x.2.2.1).trans h)
noncomputable def F74_E(N:Nat):Env:=⟨PG,N,[],[nm 0 [0,1,2,3] [1000000,1000001],nm 1 [0,1,2,3] [1000000,1000001],nm 2 [0,1,2,9] [100851,1000000],nm 3 [0,1,2,9,19] [100851,1000000],nm 4 [0,1,2] [100851,1000000]],kdL [],[F61_con N,F72_con N],[],(GL N),tl0,[]⟩
noncomputable def F74_g(N:Nat)(v1:T1)(v2:Ce)(v3:List Nat)(v4:Int):Option (T21):=
 (if v4=0 then none else(F61 N (v1.1,v1.2.1,v1.2.2.1,()) v2 (IntKind.u32.wrap (IntKind.i64.wrap (Int.tdiv (v3.length:Int) v4)))).bind fun v5=>((F72 N v5.2.1 v2 v3).bind fun v6=>(some ((),v6.2.1,()))))
noncomputable def F74(N:Nat)(v1:T1)(v2:Ce)(v3:List Nat)(v4:Int):Option (T21):=
 F74_g N v1 v2 v3 v4
theorem F74_t(N:Nat)(v1:T1)(v2:Ce)(v3:List Nat)(v4:Int):evF2 (F74_E N) [] Tryz.f77 [.ifc 66 (.box s1), .k .any, .k (.list .float), .k (.int .i64)] a49 (v1,v2,v3,v4,())=F74 N v1 v2 v3 v4:=
 Eq.trans (b:=F74_g N v1 v2 v3 v4) (by kernel_rfl) rfl
noncomputable def F74_con(N:Nat):Con2:=⟨77,[.ifc 66 (.box s1), .k .any, .k (.list .float), .k (.int .i64)],a49,fun x=>F74 N x.1 x.2.1 x.2.2.1 x.2.2.2.1⟩
theorem F74_s(N:Nat):(F74_con N).Sound PG (GL N):=
 Con2.sound_of (c:=F74_con N) (E:=(F74_E N)) (idle:=[]) Tryz.func77 (by kernel_rfl) (by kernel_rfl) ⟨allNil,(allCons (F61_s N) (allCons (F72_s N) allNil)),rfl⟩ allNil (fun x y h=>(F74_t N x.1 x.2.1 x.2.2.1 x.2.2.2.1).trans h)
noncomputable def F75_E(N:Nat):Env:=⟨PG,N,[],[nm 0 [0] [],nm 1 [0] []],kdL [],[],[],(GL N),tl0,[]⟩
noncomputable def F75_g(N:Nat)(v1:((T14×Unit)×((List Int)×Unit))):Option (((List Int)×Unit)):=
 (some (v1.2.1,()))
noncomputable def F75(N:Nat)(v1:((T14×Unit)×((List Int)×Unit))):Option (((List Int)×Unit)):=
 F75_g N v1
theorem F75_t(N:Nat)(v1:((T14×Unit)×((List Int)×Unit))):evF2 (F75_E N) [] Tryz.f79 [.lref (.pair p0 (.pair (.list (.int .i64)) .unit))] a48 (v1,())=F75 N v1:=
 Eq.trans (b:=F75_g N v1) (by kernel_rfl) rfl
noncomputable def F75_con(N:Nat):Con2:=⟨79,[.lref (.pair p0 (.pair (.list (.int .i64)) .unit))],a48,fun x=>F75 N x.1⟩
theorem F75_s(N:Nat):(F75_con N).Sound PG (GL N):=
 Con2.sound_of (c:=F75_con N) (E:=(F75_E N)) (idle:=[]) Tryz.func79 (by kernel_rfl) (by kernel_rfl) ⟨allNil,allNil,rfl⟩ allNil (fun x y h=>(F75_t N x.1).trans h)
noncomputable def F76_E(N:Nat):Env:=⟨PG,N,[],[nm 0 [0,1,2,3,4] [1000000,1000001],nm 1 [0,1,2,3,4] [1000000,1000001],nm 2 [0,1,2,3,4,11] [101051,1000000],nm 3 [0,1,2,3,4,11,23] [101051,1000000],nm 4 [0,1,2,3,4] [101051,1000000],nm 5 [0,1,2,3,4,12] [101051,1000000],nm 6 [0,1,2,4,12,25,26,27] [101051,1000000],nm 7 [0,1,2,4,12,25,26,27] [101051,1000000],nm 8 [0,1,2,4,12,14,25,26,27] [101051,1000000],nm 9 [0,1,2,4,14,15,25,26,27] [101051,1000000],nm 10 [0,1,2,4,14,15,25,26,27,40] [101051,1000000],nm 11 [0,1,2,4,14,25,26,27] [101051,1000000],nm 12 [0,1,2,4,12,25,26,27] [101051,1000000],nm 13 [] [101051,1000000]],kdL [],[F61_con N,F74_con N],[],(GL N),tl0,[]⟩
noncomputable def F76_g0(N:Nat)(v2:Ce)(v3:List Nat)(v5:Int)(v4:List Int)(r0:Int→Int→(List Int)→Int→Int→Option (T21))(v10 v11:Int)(v12:List Int)(v13 v14:Int):Option (T21):=
 (bif(decide ((v11:Int)<(v4.length:Int)))then((nth v4 v11).bind fun v15=>((chk2 v10 v15 v3.length).bind fun v16=>(F74 N (v12,v13,v14,()) v2 ((v3.drop v16.1).take (v16.2-v16.1)) v5).bind fun v17=>((r0 v15 (IntKind.i64.wrap (v11+1)) v17.2.1.1 v17.2.1.2.1 v17.2.1.2.2.1))))else(some ((),(v12,v13,v14,()),())))
noncomputable def F76_l0(N:Nat):Nat→Ce→(List Nat)→Int→(List Int)→Int→Int→(List Int)→Int→Int→Option (T21)
 |0,_,_,_,_,_,_,_,_,_=>none
 |n+1,v2,v3,v5,v4,v10,v11,v12,v13,v14=>F76_g0 N v2 v3 v5 v4 (F76_l0 N n v2 v3 v5 v4) v10 v11 v12 v13 v14
noncomputable def F76_g(N:Nat)(v1:T1)(v2:Ce)(v3:List Nat)(v4:List Int)(v5:Int)(c0:Ce→(List Nat)→Int→(List Int)→Int→Int→(List Int)→Int→Int→Option (T21)):Option (T21):=
 ((F61 N (v1.1,v1.2.1,v1.2.2.1,()) v2 (IntKind.u32.wrap (v4.length:Int))).bind fun v6=>((c0 v2 v3 v5 v4 0 0 v6.2.1.1 v6.2.1.2.1 v6.2.1.2.2.1)))
noncomputable def F76(N:Nat)(v1:T1)(v2:Ce)(v3:List Nat)(v4:List Int)(v5:Int):Option (T21):=
 F76_g N v1 v2 v3 v4 v5 (F76_l0 N N)
noncomputable def F76_e0(N n:Nat)(v2:Ce)(v3:List Nat)(v5:Int)(v4:List Int)(v10 v11:Int)(v12:List Int)(v13 v14:Int):=
 lq (F76_E N) (c78 [1,1,1,0,1,0,0]) n ⟨[(0, .iface 66 (.ref 1000000 0)),(1, .pv .any v2),(2, .pv (.list .float) v3),(4, .pv (.int .i64) v5),(12, .pv (.int .i64) v10),(25, .pv (.list (.int .i64)) v4),(26, .pv (.int .i64) (v4.length:Int)),(27, .pv (.int .i64) v11)],[(101051, .arr 5 (.int .u8) v12),(1000000, .box [.own (.int .u8) 101051, .pv (.int .i64) v13, .pv (.int .i8) v14])],[]⟩ (kBlock 0 (kq (F76_E N) (c78 [1,1,1,1]) (kEnd2 (F76_E N) [] Tryz.f78.results.toList a36 [.iface 66 (.ref 1000000 0), .dead, .dead, .dead, .dead])))
theorem F76_t0(N:Nat):∀(n:Nat) (v2:Ce) (v3:List Nat) (v5:Int) (v4:List Int) (v10 v11:Int) (v12:List Int) (v13 v14:Int),F76_e0 N n v2 v3 v5 v4 v10 v11 v12 v13 v14=F76_l0 N n v2 v3 v5 v4 v10 v11 v12 v13 v14
 |0,_,_,_,_,_,_,_,_,_=>rfl
 |n+1,v2,v3,v5,v4,v10,v11,v12,v13,v14=>by
  have h:F76_e0 N n v2 v3 v5 v4=F76_l0 N n v2 v3 v5 v4:=by funext v10 v11 v12 v13 v14;exact F76_t0 N n v2 v3 v5 v4 v10 v11 v12 v13 v14
  exact Eq.trans (b:=F76_g0 N v2 v3 v5 v4 (F76_e0 N n v2 v3 v5 v4) v10 v11 v12 v13 v14) (by kernel_rfl) (by rw[h];rfl)
theorem F76_t(N:Nat)(v1:T1)(v2:Ce)(v3:List Nat)(v4:List Int)(v5:Int):evF2 (F76_E N) [] Tryz.f78 [.ifc 66 (.box s1), .k .any, .k (.list .float), .k (.list (.int .i64)), .k (.int .i64)] a36 (v1,v2,v3,v4,v5,())=F76 N v1 v2 v3 v4 v5:=by
 have h0:(F76_e0 N N)=(F76_l0 N N):=by funext v2 v3 v5 v4 v10 v11 v12 v13 v14;exact F76_t0 N N v2 v3 v5 v4 v10 v11 v12 v13 v14
 exact Eq.trans (b:=F76_g N v1 v2 v3 v4 v5 (F76_e0 N N)) (by kernel_rfl) (by rw[h0];rfl)
noncomputable def F76_con(N:Nat):Con2:=⟨78,[.ifc 66 (.box s1), .k .any, .k (.list .float), .k (.list (.int .i64)), .k (.int .i64)],a36,fun x=>F76 N x.1 x.2.1 x.2.2.1 x.2.2.2.1 x.2.2.2.2.1⟩
theorem F76_s(N:Nat):(F76_con N).Sound PG (GL N):=
 Con2.sound_of (c:=F76_con N) (E:=(F76_E N)) (idle:=[]) Tryz.func78 (by kernel_rfl) (by kernel_rfl) ⟨allNil,(allCons (F61_s N) (allCons (F74_s N) allNil)),rfl⟩ allNil (fun x y h=>(F76_t N x.1 x.2.1 x.2.2.1 x.2.2.2.1 x.2.2.2.2.1).trans h)
noncomputable def F77_E(N:Nat):Env:=⟨PG,N,[],[nm 0 [0,1] [],nm 1 [0,1] [],nm 2 [0,1,5] [],nm 3 [0,1,5,7] [],ng N 4 [0,1,5] [],nm 5 [0,1,5,26] [],nm 6 [0,1,5] []],kdL [(157,p1)],[],[],(GL N),tl0,[]⟩
noncomputable def F77_g0(N:Nat)(v1:Ce)(v2 v6:Int):Option ((List Nat)):=
 (isNilp v1).bind fun v7=>(bif v7 then none else((ptrD p1 v1).bind fun v8=>(nth v8.1.2.1 v2).bind fun v9=>(bif(v9==v6)then(some ([]:List Nat))else((isNilp v1).bind fun v10=>(bif v10 then none else((ptrD p1 v1).bind fun v11=>(isNilp v1).bind fun v12=>(bif v12 then none else((ptrD p1 v1).bind fun v13=>(nth v13.1.2.1 v2).bind fun v14=>(chk2 v6 v14 v11.1.1.1.2.2.1.length).bind fun v15=>(some ((v11.1.1.1.2.2.1.drop v15.1).take (v15.2-v15.1)))))))))))
noncomputable def F77_j0(N:Nat)(v1:Ce)(v2 v6:Int):Option ((List Nat)):=
 gate N (F77_g0 N v1 v2 v6)
noncomputable def F77_g(N:Nat)(v1:Ce)(v2:Int)(c0:Ce→Int→Int→Option ((List Nat))):Option ((List Nat)):=
 (bif(decide ((v2:Int)>0))then((isNilp v1).bind fun v3=>(bif v3 then none else((ptrD p1 v1).bind fun v4=>(nth v4.1.2.1 (IntKind.i64.wrap (v2-1))).bind fun v5=>(c0 v1 v2 v5))))else(c0 v1 v2 0))
noncomputable def F77(N:Nat)(v1:Ce)(v2:Int):Option ((List Nat)):=
 F77_g N v1 v2 (F77_j0 N)
noncomputable def F77_e0(N:Nat)(v1:Ce)(v2 v6:Int):=
 gate N (evC (F77_E N) (c113 [1,1,1]) ⟨[(0, .pv .any v1),(1, .pv (.int .i64) v2),(5, .pv (.int .i64) v6)],[],[]⟩ (kEnd (F77_E N) [] Tryz.f113.results.toList [(.list .float)]))
theorem F77_t0(N:Nat)(v1:Ce)(v2 v6:Int):F77_e0 N v1 v2 v6=F77_j0 N v1 v2 v6:=by
 exact(congrArg (gate N) (show _=F77_g0 N v1 v2 v6 from by kernel_rfl)).trans (by rfl)
theorem F77_t(N:Nat)(v1:Ce)(v2:Int):evF (F77_E N) [] Tryz.f113 [.k .any, .k (.int .i64)] [(.list .float)] (v1,v2,())=F77 N v1 v2:=by
 have h0:(F77_e0 N)=(F77_j0 N):=by funext v1 v2 v6;exact F77_t0 N v1 v2 v6
 exact Eq.trans (b:=F77_g N v1 v2 (F77_e0 N)) (by kernel_rfl) (by rw[h0];rfl)
noncomputable def F77_con(N:Nat):Con:=⟨113,[.k .any, .k (.int .i64)],[(.list .float)],fun x=>F77 N x.1 x.2.1⟩
theorem F77_s(N:Nat):(F77_con N).Sound PG (GL N):=
 Con.sound_of (c:=F77_con N) (E:=(F77_E N)) (idle:=[]) Tryz.func113 (by kernel_rfl) (by kernel_rfl) ⟨allNil,allNil,rfl⟩ allNil (fun x y h=>(F77_t N x.1 x.2.1).trans h)
noncomputable def F78_E(N:Nat):Env:=⟨PG,N,[],[nm 0 [0] [],nm 1 [0] []],kdL [],[F18_con N],[],(GL N),tl0,[]⟩
noncomputable def F78_g(N:Nat)(v1:Int):Option ((T10×Unit)):=
 ((F18 N v1 ([]:List Nat)).bind fun v2=>(some (v2.1,())))
noncomputable def F78(N:Nat)(v1:Int):Option ((T10×Unit)):=
 F78_g N v1
theorem F78_t(N:Nat)(v1:Int):evF2 (F78_E N) [] Tryz.f114 s11 a33 (v1,())=F78 N v1:=
 Eq.trans (b:=F78_g N v1) (by kernel_rfl) rfl
noncomputable def F78_con(N:Nat):Con2:=⟨114,s11,a33,fun x=>F78 N x.1⟩
theorem F78_s(N:Nat):(F78_con N).Sound PG (GL N):=
 Con2.sound_of (c:=F78_con N) (E:=(F78_E N)) (idle:=[]) Tryz.func114 (by kernel_rfl) (by kernel_rfl) ⟨allNil,(allCons (F18_s N) allNil),rfl⟩ allNil (fun x y h=>(F78_t N x.1).trans h)
noncomputable def F79_E(N:Nat):Env:=⟨PG,N,[F17_con N],[nm 0 [0,1] [],nm 1 [0,1] [],nm 2 [0,1,5] [6],nm 3 [0,1,5] [6],nm 4 [1,5] [6],nm 5 [5] [6]],kdL [],[],[],(GL N),tl0,[]⟩
noncomputable def F79_g(N:Nat)(v1:Int)(v2:List Nat):Option ((T10×Unit)):=
 ((F17 N v1).bind fun v3=>(some ((v1,v3,v2,0,()),())))
noncomputable def F79(N:Nat)(v1:Int)(v2:List Nat):Option ((T10×Unit)):=
 F79_g N v1 v2
theorem F79_t(N:Nat)(v1:Int)(v2:List Nat):evF2 (F79_E N) [] Tryz.f39 [.k (.int .i64), .k (.list .float)] a13 (v1,v2,())=F79 N v1 v2:=
 Eq.trans (b:=F79_g N v1 v2) (by kernel_rfl) rfl
noncomputable def F79_con(N:Nat):Con2:=⟨39,[.k (.int .i64), .k (.list .float)],a13,fun x=>F79 N x.1 x.2.1⟩
theorem F79_s(N:Nat):(F79_con N).Sound PG (GL N):=
 Con2.sound_of (c:=F79_con N) (E:=(F79_E N)) (idle:=[]) Tryz.func39 (by kernel_rfl) (by kernel_rfl) ⟨(allCons (F17_s N) allNil),allNil,rfl⟩ allNil (fun x y h=>(F79_t N x.1 x.2.1).trans h)
noncomputable def F80_E(N:Nat):Env:=⟨PG,N,[F77_con N],[nm 0 [0,1] [],nm 1 [0,1] [],nm 2 [0,5] [],ng N 3 [0,5,10] [],nm 4 [0,5] []],kdL [(157,p1)],[F78_con N,F79_con N],[],(GL N),tl0,[]⟩
noncomputable def F80_g0(N:Nat)(v1:Ce)(v3:List Nat):Option ((T10×Unit)):=
 ((isNilp v1).bind fun v7=>(bif v7 then none else((ptrD p1 v1).bind fun v8=>(F79 N v8.1.1.1.1 v3).bind fun v9=>(some (v9.1,())))))
noncomputable def F80_j0(N:Nat)(v1:Ce)(v3:List Nat):Option ((T10×Unit)):=
 gate N (F80_g0 N v1 v3)
noncomputable def F80_g(N:Nat)(v1:Ce)(v2:Int)(c0:Ce→(List Nat)→Option ((T10×Unit))):Option ((T10×Unit)):=
 ((F77 N v1 v2).bind fun v3=>(bif Nat.ble 1 v3.length then(c0 v1 v3)else(agree (gate N ((isNilp v1).bind fun v4=>(bif v4 then none else((ptrD p1 v1).bind fun v5=>(F78 N v5.1.1.1.1).bind fun v6=>(some (v6.1,())))))) (c0 v1 v3))))
noncomputable def F80(N:Nat)(v1:Ce)(v2:Int):Option ((T10×Unit)):=
 F80_g N v1 v2 (F80_j0 N)
noncomputable def F80_e0(N:Nat)(v1:Ce)(v3:List Nat):=
 gate N (evC (F80_E N) (c81 [1,1,0,1]) ⟨[(0, .pv .any v1),(5, .pv (.list .float) v3),(10, .pv .bool false)],[],[]⟩ (kq (F80_E N) (c81 [1,1,1]) (kEnd2 (F80_E N) [] Tryz.f81.results.toList a13 [.dead, .dead])))
theorem F80_t0(N:Nat)(v1:Ce)(v3:List Nat):F80_e0 N v1 v3=F80_j0 N v1 v3:=by
 exact(congrArg (gate N) (show _=F80_g0 N v1 v3 from by kernel_rfl)).trans (by rfl)
theorem F80_t(N:Nat)(v1:Ce)(v2:Int):evF2 (F80_E N) [] Tryz.f81 s18 a13 (v1,v2,())=F80 N v1 v2:=by
 have h0:(F80_e0 N)=(F80_j0 N):=by funext v1 v3;exact F80_t0 N v1 v3
 exact Eq.trans (b:=F80_g N v1 v2 (F80_e0 N)) (by kernel_rfl) (by rw[h0];rfl)
noncomputable def F80_con(N:Nat):Con2:=⟨81,s18,a13,fun x=>F80 N x.1 x.2.1⟩
theorem F80_s(N:Nat):(F80_con N).Sound PG (GL N):=
 Con2.sound_of (c:=F80_con N) (E:=(F80_E N)) (idle:=[]) Tryz.func81 (by kernel_rfl) (by kernel_rfl) ⟨(allCons (F77_s N) allNil),(allCons (F78_s N) (allCons (F79_s N) allNil)),rfl⟩ allNil (fun x y h=>(F80_t N x.1 x.2.1).trans h)
noncomputable def F81_E(N:Nat):Env:=⟨PG,N,[],[nm 0 [0] [],nm 1 [0] []],kdL [],[F20_con N],[],(GL N),tl0,[]⟩
noncomputable def F81_g(N:Nat)(v1:Int):Option ((T10×Unit)):=
 ((F20 N v1 ([]:List Nat)).bind fun v2=>(some (v2.1,())))
noncomputable def F81(N:Nat)(v1:Int):Option ((T10×Unit)):=
 F81_g N v1
theorem F81_t(N:Nat)(v1:Int):evF2 (F81_E N) [] Tryz.f115 s11 a33 (v1,())=F81 N v1:=
 Eq.trans (b:=F81_g N v1) (by kernel_rfl) rfl
noncomputable def F81_con(N:Nat):Con2:=⟨115,s11,a33,fun x=>F81 N x.1⟩
theorem F81_s(N:Nat):(F81_con N).Sound PG (GL N):=
 Con2.sound_of (c:=F81_con N) (E:=(F81_E N)) (idle:=[]) Tryz.func115 (by kernel_rfl) (by kernel_rfl) ⟨allNil,(allCons (F20_s N) allNil),rfl⟩ allNil (fun x y h=>(F81_t N x.1).trans h)
noncomputable def F82_E(N:Nat):Env:=⟨PG,N,[F17_con N],[nm 0 [0,1] [],nm 1 [0,1] [],nm 2 [0,1,5] [6],nm 3 [0,1,5] [6],nm 4 [1,5] [6],nm 5 [5] [6]],kdL [],[],[],(GL N),tl0,[]⟩
noncomputable def F82_g(N:Nat)(v1:Int)(v2:List Nat):Option ((T10×Unit)):=
 ((F17 N v1).bind fun v3=>(some ((v1,v3,v2,0,()),())))
noncomputable def F82(N:Nat)(v1:Int)(v2:List Nat):Option ((T10×Unit)):=
 F82_g N v1 v2
theorem F82_t(N:Nat)(v1:Int)(v2:List Nat):evF2 (F82_E N) [] Tryz.f41 [.k (.int .i64), .k (.list .float)] a13 (v1,v2,())=F82 N v1 v2:=
 Eq.trans (b:=F82_g N v1 v2) (by kernel_rfl) rfl
noncomputable def F82_con(N:Nat):Con2:=⟨41,[.k (.int .i64), .k (.list .float)],a13,fun x=>F82 N x.1 x.2.1⟩
theorem F82_s(N:Nat):(F82_con N).Sound PG (GL N):=
 Con2.sound_of (c:=F82_con N) (E:=(F82_E N)) (idle:=[]) Tryz.func41 (by kernel_rfl) (by kernel_rfl) ⟨(allCons (F17_s N) allNil),allNil,rfl⟩ allNil (fun x y h=>(F82_t N x.1 x.2.1).trans h)
noncomputable def F83_E(N:Nat):Env:=⟨PG,N,[],[nm 0 [0,1] [],nm 1 [0,1] [],nm 2 [0,1,5] [],nm 3 [0,1,5,7] [],ng N 4 [0,1,5] [],nm 5 [0,1,5,26] [],nm 6 [0,1,5] []],kdL [(158,p1)],[F81_con N,F82_con N],[],(GL N),tl0,[]⟩
noncomputable def F83_g0(N:Nat)(v1:Ce)(v2 v6:Int):Option ((T10×Unit)):=
 (isNilp v1).bind fun v7=>(bif v7 then none else((ptrD p1 v1).bind fun v8=>(nth v8.1.2.1 v2).bind fun v9=>(bif(v6==v9)then((isNilp v1).bind fun v10=>(bif v10 then none else((ptrD p1 v1).bind fun v11=>(F81 N v11.1.1.1.1).bind fun v12=>(some (v12.1,())))))else((isNilp v1).bind fun v13=>(bif v13 then none else((ptrD p1 v1).bind fun v14=>(isNilp v1).bind fun v15=>(bif v15 then none else((ptrD p1 v1).bind fun v16=>(isNilp v1).bind fun v17=>(bif v17 then none else((ptrD p1 v1).bind fun v18=>(nth v18.1.2.1 v2).bind fun v19=>(chk2 v6 v19 v16.1.1.1.2.2.1.length).bind fun v20=>(F82 N v14.1.1.1.1 ((v16.1.1.1.2.2.1.drop v20.1).take (v20.2-v20.1))).bind fun v21=>(some (v21.1,()))))))))))))
noncomputable def F83_j0(N:Nat)(v1:Ce)(v2 v6:Int):Option ((T10×Unit)):=
 gate N (F83_g0 N v1 v2 v6)
noncomputable def F83_g(N:Nat)(v1:Ce)(v2:Int)(c0:Ce→Int→Int→Option ((T10×Unit))):Option ((T10×Unit)):=
 (bif(decide ((v2:Int)>0))then((isNilp v1).bind fun v3=>(bif v3 then none else((ptrD p1 v1).bind fun v4=>(nth v4.1.2.1 (IntKind.i64.wrap (v2-1))).bind fun v5=>(c0 v1 v2 v5))))else(c0 v1 v2 0))
noncomputable def F83(N:Nat)(v1:Ce)(v2:Int):Option ((T10×Unit)):=
 F83_g N v1 v2 (F83_j0 N)
noncomputable def F83_e0(N:Nat)(v1:Ce)(v2 v6:Int):=
 gate N (evC (F83_E N) (c83 [1,1,1]) ⟨[(0, .pv .any v1),(1, .pv (.int .i64) v2),(5, .pv (.int .i64) v6)],[],[]⟩ (kEnd2 (F83_E N) [] Tryz.f83.results.toList a13 [.dead, .dead]))
theorem F83_t0(N:Nat)(v1:Ce)(v2 v6:Int):F83_e0 N v1 v2 v6=F83_j0 N v1 v2 v6:=by
 exact(congrArg (gate N) (show _=F83_g0 N v1 v2 v6 from by kernel_rfl)).trans (by rfl)
theorem F83_t(N:Nat)(v1:Ce)(v2:Int):evF2 (F83_E N) [] Tryz.f83 s18 a13 (v1,v2,())=F83 N v1 v2:=by
 have h0:(F83_e0 N)=(F83_j0 N):=by funext v1 v2 v6;exact F83_t0 N v1 v2 v6
 exact Eq.trans (b:=F83_g N v1 v2 (F83_e0 N)) (by kernel_rfl) (by rw[h0];rfl)
noncomputable def F83_con(N:Nat):Con2:=⟨83,s18,a13,fun x=>F83 N x.1 x.2.1⟩
theorem F83_s(N:Nat):(F83_con N).Sound PG (GL N):=
 Con2.sound_of (c:=F83_con N) (E:=(F83_E N)) (idle:=[]) Tryz.func83 (by kernel_rfl) (by kernel_rfl) ⟨allNil,(allCons (F81_s N) (allCons (F82_s N) allNil)),rfl⟩ allNil (fun x y h=>(F83_t N x.1 x.2.1).trans h)
noncomputable def F84_E(N:Nat):Env:=⟨PG,N,[],[nm 0 [0] [],nm 1 [0] []],kdL [],[F25_con N],[],(GL N),tl0,[]⟩
noncomputable def F84_g(N:Nat)(v1:Int):Option ((T4×Unit)):=
 ((F25 N v1 ([]:List Nat) ([]:List Int)).bind fun v2=>(some (v2.1,())))
noncomputable def F84(N:Nat)(v1:Int):Option ((T4×Unit)):=
 F84_g N v1
theorem F84_t(N:Nat)(v1:Int):evF2 (F84_E N) [] Tryz.f116 s11 a25 (v1,())=F84 N v1:=
 Eq.trans (b:=F84_g N v1) (by kernel_rfl) rfl
noncomputable def F84_con(N:Nat):Con2:=⟨116,s11,a25,fun x=>F84 N x.1⟩
theorem F84_s(N:Nat):(F84_con N).Sound PG (GL N):=
 Con2.sound_of (c:=F84_con N) (E:=(F84_E N)) (idle:=[]) Tryz.func116 (by kernel_rfl) (by kernel_rfl) ⟨allNil,(allCons (F25_s N) allNil),rfl⟩ allNil (fun x y h=>(F84_t N x.1).trans h)
noncomputable def F85_E(N:Nat):Env:=⟨PG,N,[F17_con N],[nm 0 [0,1,2] [1000000],nm 1 [0,1,2] [1000000],nm 2 [0,1,2,7] [8,1000000],nm 3 [0,1,2,7] [8,1000000],nm 4 [1,2,7] [8,1000000],nm 5 [2,7] [8,1000000],nm 6 [7] [8,1000000]],kdL [],[],[],(GL N),tl0,[]⟩
noncomputable def F85_g(N:Nat)(v1:Int)(v2:List Nat)(v3:List Int):Option ((T4×Unit)):=
 ((F17 N v1).bind fun v4=>(some ((v1,v4,v2,0,v3,()),())))
noncomputable def F85(N:Nat)(v1:Int)(v2:List Nat)(v3:List Int):Option ((T4×Unit)):=
 F85_g N v1 v2 v3
theorem F85_t(N:Nat)(v1:Int)(v2:List Nat)(v3:List Int):evF2 (F85_E N) [] Tryz.f45 [.k (.int .i64), .k (.list .float), .row 3 (.int .i64)] a46 (v1,v2,v3,())=F85 N v1 v2 v3:=
 Eq.trans (b:=F85_g N v1 v2 v3) (by kernel_rfl) rfl
noncomputable def F85_con(N:Nat):Con2:=⟨45,[.k (.int .i64), .k (.list .float), .row 3 (.int .i64)],a46,fun x=>F85 N x.1 x.2.1 x.2.2.1⟩
theorem F85_s(N:Nat):(F85_con N).Sound PG (GL N):=
 Con2.sound_of (c:=F85_con N) (E:=(F85_E N)) (idle:=[]) Tryz.func45 (by kernel_rfl) (by kernel_rfl) ⟨(allCons (F17_s N) allNil),allNil,rfl⟩ allNil (fun x y h=>(F85_t N x.1 x.2.1 x.2.2.1).trans h)
noncomputable def F86_E(N:Nat):Env:=⟨PG,N,[],[nm 0 [0,1] [],nm 1 [0,1] [],nm 2 [0,1,20] [],nm 3 [0,1] [],nm 4 [0,1,5] [],nm 5 [0,1,5,6] [],nm 6 [0,1,5,6] [],nm 7 [0,1,5,6,7] [],nm 8 [0,1,5,6,7,43] [],nm 9 [0,1,5,6] [],ng N 10 [0,1,5] [],nm 11 [0,1,5,8] [61],nm 12 [0,1,5,8,63] [61],nm 14 [0,1,5,8,81,82,83] [61],nm 15 [0,1,5,8,81,82,83] [61],nm 16 [0,1,5,8,9,10,81,82,83] [61],nm 17 [0,1,5,8,81,82,83] [61],ng N 18 [0,1,5,8] [61]],kdL [(3,(.int .i64)),(162,p3)],[F84_con N,F85_con N],[],(GL N),tl0,[]⟩
noncomputable def F86_g3(N:Nat)(v1:Ce)(v2 v18:Int)(v35:List Int):Option ((T4×Unit)):=
 (isNilp v1).bind fun v36=>(bif v36 then none else((ptrD p3 v1).bind fun v37=>(isNilp v1).bind fun v38=>(bif v38 then none else((ptrD p3 v1).bind fun v39=>(isNilp v1).bind fun v40=>(bif v40 then none else((ptrD p3 v1).bind fun v41=>(nth v41.1.2.1 v2).bind fun v42=>(isNilp v1).bind fun v43=>(bif v43 then none else((ptrD p3 v1).bind fun v44=>(nth v44.1.2.1 v2).bind fun v45=>(nth v42 (IntKind.i64.wrap ((v45.length:Int)-1))).bind fun v46=>(chk2 v18 v46 v39.1.1.1.2.2.1.length).bind fun v47=>(F85 N v37.1.1.1.1 ((v39.1.1.1.2.2.1.drop v47.1).take (v47.2-v47.1)) v35).bind fun v48=>(some (v48.1,()))))))))))
noncomputable def F86_j3(N:Nat)(v1:Ce)(v2 v18:Int)(v35:List Int):Option ((T4×Unit)):=
 gate N (F86_g3 N v1 v2 v18 v35)
noncomputable def F86_g2(N:Nat)(v1:Ce)(v2 v18:Int)(v28:List Int)(c3:Ce→Int→Int→(List Int)→Option ((T4×Unit)))(r2:Int→(List Int)→Option ((T4×Unit)))(v31:Int)(v32:List Int):Option ((T4×Unit)):=
 (bif(decide ((v31:Int)<(v28.length:Int)))then((nth v28 v31).bind fun v33=>((chk v31 v32.length).bind fun v34=>((r2 (IntKind.i64.wrap (v31+1)) (v32.set v34 (IntKind.i64.wrap (v33-v18)))))))else(c3 v1 v2 v18 v32))
noncomputable def F86_l2(N:Nat):Nat→Ce→Int→Int→(List Int)→Int→(List Int)→Option ((T4×Unit))
 |0,_,_,_,_,_,_=>none
 |n+1,v1,v2,v18,v28,v31,v32=>F86_g2 N v1 v2 v18 v28 (F86_j3 N) (F86_l2 N n v1 v2 v18 v28) v31 v32
noncomputable def F86_g1(N:Nat)(v1:Ce)(v2:Int)(c3:Ce→Int→Int→(List Int)→Option ((T4×Unit)))(c2:Ce→Int→Int→(List Int)→Int→(List Int)→Option ((T4×Unit)))(v18:Int):Option ((T4×Unit)):=
 (isNilp v1).bind fun v19=>(bif v19 then none else((ptrD p3 v1).bind fun v20=>(nth v20.1.2.1 v2).bind fun v21=>(mkn (v21.length:Int) (v21.length:Int) 8).bind fun v22=>(bif(v18==0)then((isNilp v1).bind fun v23=>(bif v23 then none else((ptrD p3 v1).bind fun v24=>(nth v24.1.2.1 v2).bind fun v25=>(c3 v1 v2 v18 (v25.take (List.replicate v22 (0:Int)).length++(List.replicate v22 (0:Int)).drop v25.length)))))else((isNilp v1).bind fun v26=>(bif v26 then none else((ptrD p3 v1).bind fun v27=>(nth v27.1.2.1 v2).bind fun v28=>((c2 v1 v2 v18 v28 0 (List.replicate v22 (0:Int))))))))))
noncomputable def F86_j1(N:Nat)(v1:Ce)(v2 v18:Int):Option ((T4×Unit)):=
 gate N (F86_g1 N v1 v2 (F86_j3 N) (F86_l2 N N) v18)
noncomputable def F86_g0(N:Nat)(v1:Ce)(v2:Int)(c1:Ce→Int→Int→Option ((T4×Unit)))(r0:Int→Option ((T4×Unit)))(v13:Int):Option ((T4×Unit)):=
 (bif(decide ((v13:Int)≥0))then((isNilp v1).bind fun v14=>(bif v14 then none else((ptrD p3 v1).bind fun v15=>(nth v15.1.2.1 v13).bind fun v16=>(bif(decide (((v16.length:Int):Int)>0))then((nth v16 (IntKind.i64.wrap ((v16.length:Int)-1))).bind fun v17=>(c1 v1 v2 v17))else((r0 (IntKind.i64.wrap (v13-1))))))))else(c1 v1 v2 0))
noncomputable def F86_l0(N:Nat):Nat→Ce→Int→Int→Option ((T4×Unit))
 |0,_,_,_=>none
 |n+1,v1,v2,v13=>F86_g0 N v1 v2 (F86_j1 N) (F86_l0 N n v1 v2) v13
noncomputable def F86_g(N:Nat)(v1:Ce)(v2:Int)(c0:Ce→Int→Int→Option ((T4×Unit))):Option ((T4×Unit)):=
 ((isNilp v1).bind fun v3=>(bif v3 then none else((ptrD p3 v1).bind fun v4=>(nth v4.1.2.1 v2).bind fun v5=>(bif((v5.length:Int)==0)then((isNilp v1).bind fun v6=>(bif v6 then none else((ptrD p3 v1).bind fun v7=>(F84 N v7.1.1.1.1).bind fun v8=>(some (v8.1,())))))else((c0 v1 v2 (IntKind.i64.wrap (v2-1))))))))
noncomputable def F86(N:Nat)(v1:Ce)(v2:Int):Option ((T4×Unit)):=
 F86_g N v1 v2 (F86_l0 N N)
noncomputable def q17(N:Nat):=kEnd2 (F86_E N) [] Tryz.f85.results.toList a19 [.dead, .dead]
noncomputable def F86_e3(N:Nat)(v1:Ce)(v2 v18:Int)(v35:List Int):=
 gate N (evC (F86_E N) (c85 [1,1,1,1,1,1,1]) ⟨[(0, .pv .any v1),(1, .pv (.int .i64) v2),(5, .pv (.int .i64) v18),(8, .own (.int .i64) 61)],[(61, .arr 3 (.int .i64) v35)],[]⟩ (q17 N))
noncomputable def F86_e2(N n:Nat)(v1:Ce)(v2 v18:Int)(v28:List Int)(v31:Int)(v32:List Int):=
 lq (F86_E N) (c85 [1,1,1,1,1,1,0,1,1,1,0,0]) n ⟨[(0, .pv .any v1),(1, .pv (.int .i64) v2),(5, .pv (.int .i64) v18),(8, .own (.int .i64) 61),(81, .pv (.list (.int .i64)) v28),(82, .pv (.int .i64) (v28.length:Int)),(83, .pv (.int .i64) v31)],[(61, .arr 3 (.int .i64) v32)],[]⟩ (kBlock 2 (kq (F86_E N) (c85 [1,1,1,1,1,1,1]) (q17 N)))
noncomputable def F86_e1(N:Nat)(v1:Ce)(v2 v18:Int):=
 gate N (evC (F86_E N) (c85 [1,1,1,1,1]) ⟨[(0, .pv .any v1),(1, .pv (.int .i64) v2),(5, .pv (.int .i64) v18)],[],[]⟩ (q17 N))
noncomputable def F86_e0(N n:Nat)(v1:Ce)(v2 v13:Int):=
 lq (F86_E N) (c85 [1,1,1,1,0,0,0]) n ⟨[(0, .pv .any v1),(1, .pv (.int .i64) v2),(5, .pv (.int .i64) 0),(6, .pv (.int .i64) v13)],[],[]⟩ (kBlock 0 (kq (F86_E N) (c85 [1,1,1,1,1]) (q17 N)))
theorem F86_t3(N:Nat)(v1:Ce)(v2 v18:Int)(v35:List Int):F86_e3 N v1 v2 v18 v35=F86_j3 N v1 v2 v18 v35:=by
 exact(congrArg (gate N) (show _=F86_g3 N v1 v2 v18 v35 from by kernel_rfl)).trans (by rfl)
theorem F86_t2(N:Nat):∀(n:Nat) (v1:Ce) (v2 v18:Int) (v28:List Int) (v31:Int) (v32:List Int),F86_e2 N n v1 v2 v18 v28 v31 v32=F86_l2 N n v1 v2 v18 v28 v31 v32
 |0,_,_,_,_,_,_=>rfl
 |n+1,v1,v2,v18,v28,v31,v32=>by
  have h3:(F86_e3 N)=(F86_j3 N):=by funext v1 v2 v18 v35;exact F86_t3 N v1 v2 v18 v35
  have h:F86_e2 N n v1 v2 v18 v28=F86_l2 N n v1 v2 v18 v28:=by funext v31 v32;exact F86_t2 N n v1 v2 v18 v28 v31 v32
  exact Eq.trans (b:=F86_g2 N v1 v2 v18 v28 (F86_e3 N) (F86_e2 N n v1 v2 v18 v28) v31 v32) (by kernel_rfl) (by rw[h3,h];rfl)
theorem F86_t1(N:Nat)(v1:Ce)(v2 v18:Int):F86_e1 N v1 v2 v18=F86_j1 N v1 v2 v18:=by
 have h3:(F86_e3 N)=(F86_j3 N):=by funext v1 v2 v18 v35;exact F86_t3 N v1 v2 v18 v35
 have h2:(F86_e2 N N)=(F86_l2 N N):=by funext v1 v2 v18 v28 v31 v32;exact F86_t2 N N v1 v2 v18 v28 v31 v32
 exact(congrArg (gate N) (show _=F86_g1 N v1 v2 (F86_e3 N) (F86_e2 N N) v18 from by kernel_rfl)).trans (by rw[h3,h2];rfl)
theorem F86_t0(N:Nat):∀(n:Nat) (v1:Ce) (v2 v13:Int),F86_e0 N n v1 v2 v13=F86_l0 N n v1 v2 v13
 |0,_,_,_=>rfl
 |n+1,v1,v2,v13=>by
  have h1:(F86_e1 N)=(F86_j1 N):=by funext v1 v2 v18;exact F86_t1 N v1 v2 v18
  have h:F86_e0 N n v1 v2=F86_l0 N n v1 v2:=by funext v13;exact F86_t0 N n v1 v2 v13
  exact Eq.trans (b:=F86_g0 N v1 v2 (F86_e1 N) (F86_e0 N n v1 v2) v13) (by kernel_rfl) (by rw[h1,h];rfl)
theorem F86_t(N:Nat)(v1:Ce)(v2:Int):evF2 (F86_E N) [] Tryz.f85 s18 a19 (v1,v2,())=F86 N v1 v2:=by
 have h0:(F86_e0 N N)=(F86_l0 N N):=by funext v1 v2 v13;exact F86_t0 N N v1 v2 v13
 exact Eq.trans (b:=F86_g N v1 v2 (F86_e0 N N)) (by kernel_rfl) (by rw[h0];rfl)
noncomputable def F86_con(N:Nat):Con2:=⟨85,s18,a19,fun x=>F86 N x.1 x.2.1⟩
theorem F86_s(N:Nat):(F86_con N).Sound PG (GL N):=
 Con2.sound_of (c:=F86_con N) (E:=(F86_E N)) (idle:=[]) Tryz.func85 (by kernel_rfl) (by kernel_rfl) ⟨allNil,(allCons (F84_s N) (allCons (F85_s N) allNil)),rfl⟩ allNil (fun x y h=>(F86_t N x.1 x.2.1).trans h)
end
end Go.Proofs.YtllnonlmibanfaaGreatDoor.WC
