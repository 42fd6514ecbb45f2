import Derived.Test.YtjabjnkiddldeaaGreatProg
import Derived.Test.YtjabjnkiddldeaaGreatAv16
import Derived.Test.YtjabjnkiddldeaaGreatAv19
import Derived.Test.YtjabjnkiddldeaaGreatAv20
import Derived.Test.YtjabjnkiddldeaaGreatAv21
import Derived.Test.YtjabjnkiddldeaaGreatAv25
import Derived.Test.YtjabjnkiddldeaaGreatAv31
import Derived.Test.YtjabjnkiddldeaaGreatAv32
import Derived.KernelRfl
set_option linter.unusedVariables false
namespace Go.Proofs.YtjabjnkiddldeaaGreat.PC
open Go Go.Av
noncomputable section
/-- The kind of an exact number. -/
abbrev KD:Kd:=(.pair (.pair .bool (.pair (.list (.int .u32)) .unit)) (.pair (.int .i64) .unit))
/-- (pub-orthodrome/spec.Whole).Sign -/
noncomputable def spec_Whole_Sign_E (N:Nat):Env:=⟨Tryz.prog,N,[],[(0,⟨[],[],[],[],[],[0],[],none⟩),(1,⟨[],[],[],[],[],[1],[1],none⟩),(2,⟨[],[],[],[],[],[1,3],[1],none⟩),(4,⟨[],[],[],[],[],[8],[],none⟩),(5,⟨[],[],[],[],[],[],[],none⟩)],kdL [],[],[],[],[61,89,92,95,99,105,108,112]⟩
def spec_Whole_Sign_g (N:Nat) (v1:(Bool×((List Int)×Unit))):Option (Int) :=
  (bif ((v1.2.1.length:Int) == 0) then (some 0) else (bif v1.1 then (some (-1)) else (some 1)))
def spec_Whole_Sign (N:Nat) (v1:(Bool×((List Int)×Unit))):Option (Int) :=
  spec_Whole_Sign_g N v1
set_option maxRecDepth 100000
theorem spec_Whole_Sign_t (N:Nat) (v1:(Bool×((List Int)×Unit))):evF (spec_Whole_Sign_E N) [] Tryz.f62 [.k (.pair .bool (.pair (.list (.int .u32)) .unit))] [(.int .i64)] (v1,()) = spec_Whole_Sign N v1:=by
  exact (show evF (spec_Whole_Sign_E N) [] Tryz.f62 [.k (.pair .bool (.pair (.list (.int .u32)) .unit))] [(.int .i64)] (v1,()) = spec_Whole_Sign_g N v1 from by kernel_rfl).trans (by rfl)
noncomputable def spec_Whole_Sign_con (N:Nat):Con:=⟨62,[.k (.pair .bool (.pair (.list (.int .u32)) .unit))],[(.int .i64)],fun x=>spec_Whole_Sign N x.1⟩
theorem spec_Whole_Sign_s (N:Nat):(spec_Whole_Sign_con N).Sound Tryz.prog [] :=
  Con.sound_of (c:=spec_Whole_Sign_con N) (E:=(spec_Whole_Sign_E N)) (idle:=[]) Tryz.func62 (by kernel_rfl) (by kernel_rfl) ⟨allNil,allNil,rfl⟩ allNil (fun x y h=>(spec_Whole_Sign_t N x.1).trans h)
/-- (pub-orthodrome/spec.Dyadic).Sign -/
noncomputable def spec_Dyadic_Sign_E (N:Nat):Env:=⟨Tryz.prog,N,[spec_Whole_Sign_con N],[(0,⟨[],[],[],[],[],[0],[],none⟩),(1,⟨[],[],[],[],[],[1],[1],none⟩)],kdL [],[],[],[],[61,89,92,95,99,105,108,112]⟩
def spec_Dyadic_Sign_g (N:Nat) (v1:((Bool×((List Int)×Unit))×(Int×Unit))):Option (Int) :=
  ((spec_Whole_Sign N (v1.1.1,v1.1.2.1,())).bind fun v2=>(some v2))
def spec_Dyadic_Sign (N:Nat) (v1:((Bool×((List Int)×Unit))×(Int×Unit))):Option (Int) :=
  spec_Dyadic_Sign_g N v1
set_option maxRecDepth 100000
theorem spec_Dyadic_Sign_t (N:Nat) (v1:((Bool×((List Int)×Unit))×(Int×Unit))):evF (spec_Dyadic_Sign_E N) [] Tryz.f25 [.k KD] [(.int .i64)] (v1,()) = spec_Dyadic_Sign N v1:=by
  exact (show evF (spec_Dyadic_Sign_E N) [] Tryz.f25 [.k KD] [(.int .i64)] (v1,()) = spec_Dyadic_Sign_g N v1 from by kernel_rfl).trans (by rfl)
noncomputable def spec_Dyadic_Sign_con (N:Nat):Con:=⟨25,[.k KD],[(.int .i64)],fun x=>spec_Dyadic_Sign N x.1⟩
theorem spec_Dyadic_Sign_s (N:Nat):(spec_Dyadic_Sign_con N).Sound Tryz.prog [] :=
  Con.sound_of (c:=spec_Dyadic_Sign_con N) (E:=(spec_Dyadic_Sign_E N)) (idle:=[]) Tryz.func25 (by kernel_rfl) (by kernel_rfl) ⟨(allCons (spec_Whole_Sign_s N) allNil),allNil,rfl⟩ allNil (fun x y h=>(spec_Dyadic_Sign_t N x.1).trans h)
/-- pub-orthodrome/spec.trim -/
noncomputable def spec_trim_b_E (N:Nat):Env:=⟨Tryz.prog,N,[],[(0,⟨[],[],[],[],[],[0],[],none⟩),(1,⟨[],[],[],[],[],[0],[],none⟩),(2,⟨[],[],[],[],[],[0],[],none⟩),(3,⟨[],[],[],[],[],[0],[],some N⟩)],kdL [],[],[],[],[61,89,92,95,99,105,108,112]⟩
def spec_trim_b_g1 (N:Nat) (v4:(List Int)):Option (((List Int)×Unit)) :=
  (some (v4,()))
def spec_trim_b_j1 (N:Nat) (v4:(List Int)):Option (((List Int)×Unit)) :=
  gate N (spec_trim_b_g1 N v4)
def spec_trim_b_g0 (N:Nat) (c1:(List Int)→Option (((List Int)×Unit))) (r0:(List Int)→Option (((List Int)×Unit))) (v4:(List Int)):Option (((List Int)×Unit)) :=
  bif (decide (((v4.length:Int):Int) > 0)) then ((nth v4 (IntKind.i64.wrap ((v4.length:Int) - 1))).bind fun v5=>(bif (v5 == 0) then ((chk2 0 (IntKind.i64.wrap ((v4.length:Int) - 1)) v4.length).bind fun v6=>(r0 ((v4.drop v6.1).take (v6.2 - v6.1)))) else (c1 v4))) else (c1 v4)
def spec_trim_b_l0 (N:Nat):Nat→(List Int)→Option (((List Int)×Unit))
  | 0,_=>none
  | n + 1,v4=>spec_trim_b_g0 N (spec_trim_b_j1 N) (spec_trim_b_l0 N n) v4
def spec_trim_b_g (N:Nat) (v1:(List Int)) (c0:(List Int)→Option (((List Int)×Unit))):Option (((List Int)×Unit)) :=
  ((c0 v1))
def spec_trim_b (N:Nat) (v1:(List Int)):Option (((List Int)×Unit)) :=
  spec_trim_b_g N v1 (spec_trim_b_l0 N N)
set_option maxRecDepth 100000
noncomputable def spec_trim_b_e1 (N:Nat) (v4:(List Int)):Option (AltD [⟨[.k (.list (.int .u32))],[none]⟩]) :=
  gate N (evC (spec_trim_b_E N) (codeAt (bodyOf Tryz.f63) [1,1]) ⟨[(0,.pv (.list (.int .u32)) v4)],[],[]⟩ (kEnd2 (spec_trim_b_E N) [] Tryz.f63.results.toList [⟨[.k (.list (.int .u32))],[none]⟩] [.dead]))
noncomputable def spec_trim_b_e0 (N:Nat) (n:Nat) (v4:(List Int)):Option (AltD [⟨[.k (.list (.int .u32))],[none]⟩]) :=
  loopN (advOf (spec_trim_b_E N) (codeAt (bodyOf Tryz.f63) [1,0,0,0])) (evC (spec_trim_b_E N) (codeAt (bodyOf Tryz.f63) [1,0,0,0])) n ⟨[(0,.pv (.list (.int .u32)) v4)],[],[]⟩ (kBlock 0 (kSeq (advOf (spec_trim_b_E N) (codeAt (bodyOf Tryz.f63) [1,1])) (evC (spec_trim_b_E N) (codeAt (bodyOf Tryz.f63) [1,1])) (kEnd2 (spec_trim_b_E N) [] Tryz.f63.results.toList [⟨[.k (.list (.int .u32))],[none]⟩] [.dead])))
theorem spec_trim_b_t1 (N:Nat) (v4:(List Int)):spec_trim_b_e1 N v4 = spec_trim_b_j1 N v4:=by
  exact (congrArg (gate N) (show evC (spec_trim_b_E N) (codeAt (bodyOf Tryz.f63) [1,1]) ⟨[(0,.pv (.list (.int .u32)) v4)],[],[]⟩ (kEnd2 (spec_trim_b_E N) [] Tryz.f63.results.toList [⟨[.k (.list (.int .u32))],[none]⟩] [.dead]) = spec_trim_b_g1 N v4 from by kernel_rfl)).trans (by rfl)
theorem spec_trim_b_t0 (N:Nat):∀ (n:Nat) (v4:(List Int)),spec_trim_b_e0 N n v4 = spec_trim_b_l0 N n v4
  | 0,_=>rfl
  | n + 1,v4=>by
    have h1:(spec_trim_b_e1 N) = (spec_trim_b_j1 N):=by funext v4; exact spec_trim_b_t1 N v4
    have h:spec_trim_b_e0 N n = spec_trim_b_l0 N n:=by funext v4; exact spec_trim_b_t0 N n v4
    exact (show spec_trim_b_e0 N (n + 1) v4 = spec_trim_b_g0 N (spec_trim_b_e1 N) (spec_trim_b_e0 N n) v4 from by kernel_rfl).trans (by rw [h1,h]; rfl)
theorem spec_trim_b_t (N:Nat) (v1:(List Int)):evF2 (spec_trim_b_E N) [] Tryz.f63 [.k (.list (.int .u32))] [⟨[.k (.list (.int .u32))],[none]⟩] (v1,()) = spec_trim_b N v1:=by
  have h0:(spec_trim_b_e0 N N) = (spec_trim_b_l0 N N):=by funext v4; exact spec_trim_b_t0 N N v4
  exact (show evF2 (spec_trim_b_E N) [] Tryz.f63 [.k (.list (.int .u32))] [⟨[.k (.list (.int .u32))],[none]⟩] (v1,()) = spec_trim_b_g N v1 (spec_trim_b_e0 N N) from by kernel_rfl).trans (by rw [h0]; rfl)
noncomputable def spec_trim_b_con (N:Nat):Con2:=⟨63,[.k (.list (.int .u32))],[⟨[.k (.list (.int .u32))],[none]⟩],fun x=>spec_trim_b N x.1⟩
theorem spec_trim_b_s (N:Nat):(spec_trim_b_con N).Sound Tryz.prog [] :=
  Con2.sound_of (c:=spec_trim_b_con N) (E:=(spec_trim_b_E N)) (idle:=[]) Tryz.func63 (by kernel_rfl) (by kernel_rfl) ⟨allNil,allNil,rfl⟩ allNil (fun x y h=>(spec_trim_b_t N x.1).trans h)
/-- (pub-orthodrome/spec.Whole).Up -/
noncomputable def spec_Whole_Up_E (N:Nat):Env:=⟨Tryz.prog,N,[],[(0,⟨[],[],[],[],[],[0,1],[],none⟩),(1,⟨[],[],[],[],[],[1,2,4],[2,4],none⟩),(2,⟨[],[],[],[],[],[1,2,4,13],[2,4],none⟩),(3,⟨[],[],[],[],[],[1,2,4],[2,4],none⟩),(4,⟨[],[],[],[],[],[1,2,4,5],[2,4,24],none⟩),(5,⟨[],[],[],[],[],[1,2,4,5,6],[2,4,24],none⟩),(6,⟨[(5,124,(.int .u32),90600)],[],[],[],[],[1,2,4,5,6,26,27,28],[2,4,90600],none⟩),(7,⟨[],[],[],[],[],[1,2,4,5,6,26,27,28],[2,4,90600],none⟩),(8,⟨[],[],[],[],[],[1,2,4,5,6,8,26,27,28],[2,4,90600],none⟩),(9,⟨[],[],[],[],[],[1,2,4,5,6,9,26,27,28],[2,4,90600],none⟩),(10,⟨[],[],[],[],[],[1,2,4,5,9,26,27,28],[2,4,43],none⟩),(11,⟨[],[],[],[],[],[1,2,4,5,6,26,27,28],[2,4,43],none⟩),(12,⟨[],[],[],[],[],[2,4,5,6],[2,4,90600],none⟩)],kdL [(124,(.int .u32))],[spec_trim_b_con N],[],[],[61,89,92,95,99,105,108,112]⟩
def spec_Whole_Up_g0 (N:Nat) (v2:Int) (v1:(Bool×((List Int)×Unit))) (r0:Int→Int→(List Int)→Option ((Bool×((List Int)×Unit)))) (v5:Int) (v6:Int) (v7:(List Int)):Option ((Bool×((List Int)×Unit))) :=
  (bif (decide ((v6:Int) < (v1.2.1.length:Int))) then ((nth v1.2.1 v6).bind fun v8=>(if ((Int.tmod v2 32):Int) < 0 then none else ((lim ((v7.length + ([(bits .or .u32 (IntKind.u32.wrap (IntKind.u64.wrap ((IntKind.u64.wrap v8) * 2 ^ (min ((Int.tmod v2 32):Int).toNat (IntKind.bits .u64))))) v5)]:List Int).length) * 4)).bind fun _=>((r0 (IntKind.u32.wrap (Int.fdiv (IntKind.u64.wrap ((IntKind.u64.wrap v8) * 2 ^ (min ((Int.tmod v2 32):Int).toNat (IntKind.bits .u64)))) (2 ^ (min (32:Int).toNat (IntKind.bits .u64))))) (IntKind.i64.wrap (v6 + 1)) (v7 ++ ([(bits .or .u32 (IntKind.u32.wrap (IntKind.u64.wrap ((IntKind.u64.wrap v8) * 2 ^ (min ((Int.tmod v2 32):Int).toNat (IntKind.bits .u64))))) v5)]:List Int))))))) else ((lim ((v7.length + ([v5]:List Int).length) * 4)).bind fun _=>(spec_trim_b N (v7 ++ ([v5]:List Int))).bind fun v9=>(some (v1.1,v9.1,()))))
def spec_Whole_Up_l0 (N:Nat):Nat→Int→(Bool×((List Int)×Unit))→Int→Int→(List Int)→Option ((Bool×((List Int)×Unit)))
  | 0,_,_,_,_,_=>none
  | n + 1,v2,v1,v5,v6,v7=>spec_Whole_Up_g0 N v2 v1 (spec_Whole_Up_l0 N n v2 v1) v5 v6 v7
def spec_Whole_Up_g (N:Nat) (v1:(Bool×((List Int)×Unit))) (v2:Int) (c0:Int→(Bool×((List Int)×Unit))→Int→Int→(List Int)→Option ((Bool×((List Int)×Unit)))):Option ((Bool×((List Int)×Unit))) :=
  (bif ((v1.2.1.length:Int) == 0) then (some (v1.1,v1.2.1,())) else ((mkn (IntKind.i64.wrap (Int.tdiv v2 32)) (IntKind.i64.wrap ((IntKind.i64.wrap ((IntKind.i64.wrap (Int.tdiv v2 32)) + (v1.2.1.length:Int))) + 1)) 4).bind fun v3=>((c0 v2 v1 0 0 (List.replicate v3 (0:Int))))))
def spec_Whole_Up (N:Nat) (v1:(Bool×((List Int)×Unit))) (v2:Int):Option ((Bool×((List Int)×Unit))) :=
  spec_Whole_Up_g N v1 v2 (spec_Whole_Up_l0 N N)
set_option maxRecDepth 100000
noncomputable def spec_Whole_Up_e0 (N:Nat) (n:Nat) (v2:Int) (v1:(Bool×((List Int)×Unit))) (v5:Int) (v6:Int) (v7:(List Int)):Option (HR [(.pair .bool (.pair (.list (.int .u32)) .unit))]) :=
  loopN (advOf (spec_Whole_Up_E N) (codeAt (bodyOf Tryz.f26) [1,1,1,1,0,1,0,0])) (evC (spec_Whole_Up_E N) (codeAt (bodyOf Tryz.f26) [1,1,1,1,0,1,0,0])) n ⟨[(1,.pv (.int .i64) v2),(2,.ref 2 0),(4,.ref 4 0),(5,.own (.int .u32) 90600),(6,.pv (.int .u32) v5),(26,.pv (.list (.int .u32)) v1.2.1),(27,.pv (.int .i64) (v1.2.1.length:Int)),(28,.pv (.int .i64) v6)],[(2,.box [.pv .bool v1.1,.pv (.list (.int .u32)) v1.2.1]),(4,.box [.pv .bool false,.nils]),(90600,.arr 124 (.int .u32) v7)],[]⟩ (kBlock 0 (kSeq (advOf (spec_Whole_Up_E N) (codeAt (bodyOf Tryz.f26) [1,1,1,1,1])) (evC (spec_Whole_Up_E N) (codeAt (bodyOf Tryz.f26) [1,1,1,1,1])) (kEnd (spec_Whole_Up_E N) [] Tryz.f26.results.toList [(.pair .bool (.pair (.list (.int .u32)) .unit))])))
theorem spec_Whole_Up_t0 (N:Nat):∀ (n:Nat) (v2:Int) (v1:(Bool×((List Int)×Unit))) (v5:Int) (v6:Int) (v7:(List Int)),spec_Whole_Up_e0 N n v2 v1 v5 v6 v7 = spec_Whole_Up_l0 N n v2 v1 v5 v6 v7
  | 0,_,_,_,_,_=>rfl
  | n + 1,v2,v1,v5,v6,v7=>by
    have h:spec_Whole_Up_e0 N n v2 v1 = spec_Whole_Up_l0 N n v2 v1:=by funext v5 v6 v7; exact spec_Whole_Up_t0 N n v2 v1 v5 v6 v7
    exact (show spec_Whole_Up_e0 N (n + 1) v2 v1 v5 v6 v7 = spec_Whole_Up_g0 N v2 v1 (spec_Whole_Up_e0 N n v2 v1) v5 v6 v7 from by kernel_rfl).trans (by rw [h]; rfl)
theorem spec_Whole_Up_t (N:Nat) (v1:(Bool×((List Int)×Unit))) (v2:Int):evF (spec_Whole_Up_E N) [] Tryz.f26 [.k (.pair .bool (.pair (.list (.int .u32)) .unit)),.k (.int .i64)] [(.pair .bool (.pair (.list (.int .u32)) .unit))] (v1,v2,()) = spec_Whole_Up N v1 v2:=by
  have h0:(spec_Whole_Up_e0 N N) = (spec_Whole_Up_l0 N N):=by funext v2 v1 v5 v6 v7; exact spec_Whole_Up_t0 N N v2 v1 v5 v6 v7
  exact (show evF (spec_Whole_Up_E N) [] Tryz.f26 [.k (.pair .bool (.pair (.list (.int .u32)) .unit)),.k (.int .i64)] [(.pair .bool (.pair (.list (.int .u32)) .unit))] (v1,v2,()) = spec_Whole_Up_g N v1 v2 (spec_Whole_Up_e0 N N) from by kernel_rfl).trans (by rw [h0]; rfl)
noncomputable def spec_Whole_Up_con (N:Nat):Con:=⟨26,[.k (.pair .bool (.pair (.list (.int .u32)) .unit)),.k (.int .i64)],[(.pair .bool (.pair (.list (.int .u32)) .unit))],fun x=>spec_Whole_Up N x.1 x.2.1⟩
theorem spec_Whole_Up_s (N:Nat):(spec_Whole_Up_con N).Sound Tryz.prog [] :=
  Con.sound_of (c:=spec_Whole_Up_con N) (E:=(spec_Whole_Up_E N)) (idle:=[]) Tryz.func26 (by kernel_rfl) (by kernel_rfl) ⟨allNil,(allCons (spec_trim_b_s N) allNil),rfl⟩ allNil (fun x y h=>(spec_Whole_Up_t N x.1 x.2.1).trans h)
/-- pub-orthodrome/spec.trim -/
noncomputable def spec_trim_E (N:Nat):Env:=⟨Tryz.prog,N,[],[(0,⟨[],[],[],[],[],[0],[],none⟩),(1,⟨[],[],[],[],[],[0],[],none⟩),(2,⟨[],[],[],[],[],[0],[],none⟩),(3,⟨[],[],[],[],[],[0],[],some N⟩)],kdL [],[],[],[],[61,89,92,95,99,105,108,112]⟩
def spec_trim_g1 (N:Nat) (v4:(List Int)):Option ((List Int)) :=
  (some v4)
def spec_trim_j1 (N:Nat) (v4:(List Int)):Option ((List Int)) :=
  gate N (spec_trim_g1 N v4)
def spec_trim_g0 (N:Nat) (c1:(List Int)→Option ((List Int))) (r0:(List Int)→Option ((List Int))) (v4:(List Int)):Option ((List Int)) :=
  bif (decide (((v4.length:Int):Int) > 0)) then ((nth v4 (IntKind.i64.wrap ((v4.length:Int) - 1))).bind fun v5=>(bif (v5 == 0) then ((chk2 0 (IntKind.i64.wrap ((v4.length:Int) - 1)) v4.length).bind fun v6=>(r0 ((v4.drop v6.1).take (v6.2 - v6.1)))) else (c1 v4))) else (c1 v4)
def spec_trim_l0 (N:Nat):Nat→(List Int)→Option ((List Int))
  | 0,_=>none
  | n + 1,v4=>spec_trim_g0 N (spec_trim_j1 N) (spec_trim_l0 N n) v4
def spec_trim_g (N:Nat) (v1:(List Int)) (c0:(List Int)→Option ((List Int))):Option ((List Int)) :=
  ((c0 v1))
def spec_trim (N:Nat) (v1:(List Int)):Option ((List Int)) :=
  spec_trim_g N v1 (spec_trim_l0 N N)
set_option maxRecDepth 100000
noncomputable def spec_trim_e1 (N:Nat) (v4:(List Int)):Option (HR [(.list (.int .u32))]) :=
  gate N (evC (spec_trim_E N) (codeAt (bodyOf Tryz.f63) [1,1]) ⟨[(0,.pv (.list (.int .u32)) v4)],[],[]⟩ (kEnd (spec_trim_E N) [] Tryz.f63.results.toList [(.list (.int .u32))]))
noncomputable def spec_trim_e0 (N:Nat) (n:Nat) (v4:(List Int)):Option (HR [(.list (.int .u32))]) :=
  loopN (advOf (spec_trim_E N) (codeAt (bodyOf Tryz.f63) [1,0,0,0])) (evC (spec_trim_E N) (codeAt (bodyOf Tryz.f63) [1,0,0,0])) n ⟨[(0,.pv (.list (.int .u32)) v4)],[],[]⟩ (kBlock 0 (kSeq (advOf (spec_trim_E N) (codeAt (bodyOf Tryz.f63) [1,1])) (evC (spec_trim_E N) (codeAt (bodyOf Tryz.f63) [1,1])) (kEnd (spec_trim_E N) [] Tryz.f63.results.toList [(.list (.int .u32))])))
theorem spec_trim_t1 (N:Nat) (v4:(List Int)):spec_trim_e1 N v4 = spec_trim_j1 N v4:=by
  exact (congrArg (gate N) (show evC (spec_trim_E N) (codeAt (bodyOf Tryz.f63) [1,1]) ⟨[(0,.pv (.list (.int .u32)) v4)],[],[]⟩ (kEnd (spec_trim_E N) [] Tryz.f63.results.toList [(.list (.int .u32))]) = spec_trim_g1 N v4 from by kernel_rfl)).trans (by rfl)
theorem spec_trim_t0 (N:Nat):∀ (n:Nat) (v4:(List Int)),spec_trim_e0 N n v4 = spec_trim_l0 N n v4
  | 0,_=>rfl
  | n + 1,v4=>by
    have h1:(spec_trim_e1 N) = (spec_trim_j1 N):=by funext v4; exact spec_trim_t1 N v4
    have h:spec_trim_e0 N n = spec_trim_l0 N n:=by funext v4; exact spec_trim_t0 N n v4
    exact (show spec_trim_e0 N (n + 1) v4 = spec_trim_g0 N (spec_trim_e1 N) (spec_trim_e0 N n) v4 from by kernel_rfl).trans (by rw [h1,h]; rfl)
theorem spec_trim_t (N:Nat) (v1:(List Int)):evF (spec_trim_E N) [] Tryz.f63 [.k (.list (.int .u32))] [(.list (.int .u32))] (v1,()) = spec_trim N v1:=by
  have h0:(spec_trim_e0 N N) = (spec_trim_l0 N N):=by funext v4; exact spec_trim_t0 N N v4
  exact (show evF (spec_trim_E N) [] Tryz.f63 [.k (.list (.int .u32))] [(.list (.int .u32))] (v1,()) = spec_trim_g N v1 (spec_trim_e0 N N) from by kernel_rfl).trans (by rw [h0]; rfl)
noncomputable def spec_trim_con (N:Nat):Con:=⟨63,[.k (.list (.int .u32))],[(.list (.int .u32))],fun x=>spec_trim N x.1⟩
theorem spec_trim_s (N:Nat):(spec_trim_con N).Sound Tryz.prog [] :=
  Con.sound_of (c:=spec_trim_con N) (E:=(spec_trim_E N)) (idle:=[]) Tryz.func63 (by kernel_rfl) (by kernel_rfl) ⟨allNil,allNil,rfl⟩ allNil (fun x y h=>(spec_trim_t N x.1).trans h)
/-- pub-orthodrome/spec.addLimbs -/
noncomputable def spec_addLimbs_E (N:Nat):Env:=⟨Tryz.prog,N,[spec_trim_con N],[(0,⟨[],[],[],[],[],[0,1],[],none⟩),(1,⟨[],[],[],[],[],[0,1],[],none⟩),(2,⟨[],[],[],[],[],[0,1,14],[],none⟩),(3,⟨[],[],[],[],[],[0,1],[],some N⟩),(4,⟨[],[],[],[],[],[0,1,5],[20],none⟩),(5,⟨[],[],[],[],[],[0,1,5,6],[20],none⟩),(6,⟨[(5,124,(.int .u32),90600)],[],[],[],[],[1,5,6,21,22,23],[90600],none⟩),(7,⟨[],[],[],[],[],[1,5,6,21,22,23],[90600],none⟩),(8,⟨[],[],[],[],[],[1,5,6,7,8,21,22,23],[90600],none⟩),(9,⟨[],[],[],[],[],[1,5,7,9,21,22,23],[90600],none⟩),(10,⟨[],[],[],[],[],[1,5,7,9,21,22,23,35],[90600],none⟩),(11,⟨[],[],[],[],[],[1,5,9,21,22,23],[90600],some N⟩),(12,⟨[],[],[],[],[],[1,5,9,21,22,23],[47],none⟩),(13,⟨[],[],[],[],[],[1,5,6,21,22,23],[47],none⟩),(14,⟨[],[],[],[],[],[5,6],[90600],none⟩)],kdL [(124,(.int .u32))],[],[],[],[61,89,92,95,99,105,108,112]⟩
def spec_addLimbs_g2 (N:Nat) (v4:(List Int)) (v3:(List Int)) (v10:Int) (v11:(List Int)) (r1:Int→Int→(List Int)→Option ((List Int))) (v14:Int):Option ((List Int)) :=
  (lim ((v11.length + ([(IntKind.u32.wrap v14)]:List Int).length) * 4)).bind fun _=>((r1 (Int.fdiv v14 (2 ^ (min (32:Int).toNat (IntKind.bits .u64)))) (IntKind.i64.wrap (v10 + 1)) (v11 ++ ([(IntKind.u32.wrap v14)]:List Int))))
def spec_addLimbs_j2 (N:Nat) (r1:Int→Int→(List Int)→Option ((List Int))) (v4:(List Int)) (v3:(List Int)) (v10:Int) (v11:(List Int)) (v14:Int):Option ((List Int)) :=
  gate N (spec_addLimbs_g2 N v4 v3 v10 v11 r1 v14)
def spec_addLimbs_g1 (N:Nat) (v4:(List Int)) (v3:(List Int)) (c2:Int→(List Int)→Int→Option ((List Int))) (r1:Int→Int→(List Int)→Option ((List Int))) (v9:Int) (v10:Int) (v11:(List Int)):Option ((List Int)) :=
  (bif (decide ((v10:Int) < (v3.length:Int))) then ((nth v3 v10).bind fun v12=>(bif (decide ((v10:Int) < (v4.length:Int))) then ((nth v4 v10).bind fun v13=>(c2 v10 v11 (IntKind.u64.wrap ((IntKind.u64.wrap ((IntKind.u64.wrap v12) + v9)) + (IntKind.u64.wrap v13))))) else (c2 v10 v11 (IntKind.u64.wrap ((IntKind.u64.wrap v12) + v9))))) else ((lim ((v11.length + ([(IntKind.u32.wrap v9)]:List Int).length) * 4)).bind fun _=>(spec_trim N (v11 ++ ([(IntKind.u32.wrap v9)]:List Int))).bind fun v15=>(some v15)))
def spec_addLimbs_l1 (N:Nat):Nat→(List Int)→(List Int)→Int→Int→(List Int)→Option ((List Int))
  | 0,_,_,_,_,_=>none
  | n + 1,v4,v3,v9,v10,v11=>spec_addLimbs_g1 N v4 v3 (spec_addLimbs_j2 N (spec_addLimbs_l1 N n v4 v3) v4 v3) (spec_addLimbs_l1 N n v4 v3) v9 v10 v11
def spec_addLimbs_g0 (N:Nat) (c1:(List Int)→(List Int)→Int→Int→(List Int)→Option ((List Int))) (v3:(List Int)) (v4:(List Int)):Option ((List Int)) :=
  (mkn 0 (IntKind.i64.wrap ((v3.length:Int) + 1)) 4).bind fun v5=>((c1 v4 v3 0 0 (List.replicate v5 (0:Int))))
def spec_addLimbs_j0 (N:Nat) (v3:(List Int)) (v4:(List Int)):Option ((List Int)) :=
  gate N (spec_addLimbs_g0 N (spec_addLimbs_l1 N N) v3 v4)
def spec_addLimbs_g (N:Nat) (v1:(List Int)) (v2:(List Int)) (c0:(List Int)→(List Int)→Option ((List Int))):Option ((List Int)) :=
  (bif (decide (((v1.length:Int):Int) < (v2.length:Int))) then (c0 v2 v1) else (c0 v1 v2))
def spec_addLimbs (N:Nat) (v1:(List Int)) (v2:(List Int)):Option ((List Int)) :=
  spec_addLimbs_g N v1 v2 (spec_addLimbs_j0 N)
set_option maxRecDepth 100000
noncomputable def spec_addLimbs_e2 (N:Nat) (m1:Nat) (v4:(List Int)) (v3:(List Int)) (v10:Int) (v11:(List Int)) (v14:Int):Option (HR [(.list (.int .u32))]) :=
  gate N (evC (spec_addLimbs_E N) (codeAt (bodyOf Tryz.f64) [1,1,1,1,0,1,0,0,1,1,0,0,1,1,1]) ⟨[(1,.pv (.list (.int .u32)) v4),(5,.own (.int .u32) 90600),(9,.pv (.int .u64) v14),(21,.pv (.list (.int .u32)) v3),(22,.pv (.int .i64) (v3.length:Int)),(23,.pv (.int .i64) v10)],[(90600,.arr 124 (.int .u32) v11)],[]⟩ (kBlock 1 (kSeq (advOf (spec_addLimbs_E N) (codeAt (bodyOf Tryz.f64) [1,1,1,1,0,1,0,0,1,1,1])) (evC (spec_addLimbs_E N) (codeAt (bodyOf Tryz.f64) [1,1,1,1,0,1,0,0,1,1,1])) (kSeq (advOf (spec_addLimbs_E N) (codeAt (bodyOf Tryz.f64) [1,1,1,1,0,1,0,0])) (fun st K=>loopN (advOf (spec_addLimbs_E N) (codeAt (bodyOf Tryz.f64) [1,1,1,1,0,1,0,0])) (evC (spec_addLimbs_E N) (codeAt (bodyOf Tryz.f64) [1,1,1,1,0,1,0,0])) m1 st K) (kBlock 0 (kSeq (advOf (spec_addLimbs_E N) (codeAt (bodyOf Tryz.f64) [1,1,1,1,1])) (evC (spec_addLimbs_E N) (codeAt (bodyOf Tryz.f64) [1,1,1,1,1])) (kEnd (spec_addLimbs_E N) [] Tryz.f64.results.toList [(.list (.int .u32))])))))))
noncomputable def spec_addLimbs_e1 (N:Nat) (n:Nat) (v4:(List Int)) (v3:(List Int)) (v9:Int) (v10:Int) (v11:(List Int)):Option (HR [(.list (.int .u32))]) :=
  loopN (advOf (spec_addLimbs_E N) (codeAt (bodyOf Tryz.f64) [1,1,1,1,0,1,0,0])) (evC (spec_addLimbs_E N) (codeAt (bodyOf Tryz.f64) [1,1,1,1,0,1,0,0])) n ⟨[(1,.pv (.list (.int .u32)) v4),(5,.own (.int .u32) 90600),(6,.pv (.int .u64) v9),(21,.pv (.list (.int .u32)) v3),(22,.pv (.int .i64) (v3.length:Int)),(23,.pv (.int .i64) v10)],[(90600,.arr 124 (.int .u32) v11)],[]⟩ (kBlock 0 (kSeq (advOf (spec_addLimbs_E N) (codeAt (bodyOf Tryz.f64) [1,1,1,1,1])) (evC (spec_addLimbs_E N) (codeAt (bodyOf Tryz.f64) [1,1,1,1,1])) (kEnd (spec_addLimbs_E N) [] Tryz.f64.results.toList [(.list (.int .u32))])))
noncomputable def spec_addLimbs_e0 (N:Nat) (v3:(List Int)) (v4:(List Int)):Option (HR [(.list (.int .u32))]) :=
  gate N (evC (spec_addLimbs_E N) (codeAt (bodyOf Tryz.f64) [1,1]) ⟨[(0,.pv (.list (.int .u32)) v3),(1,.pv (.list (.int .u32)) v4)],[],[]⟩ (kEnd (spec_addLimbs_E N) [] Tryz.f64.results.toList [(.list (.int .u32))]))
theorem spec_addLimbs_t2 (N:Nat) (m1:Nat) (v4:(List Int)) (v3:(List Int)) (v10:Int) (v11:(List Int)) (v14:Int):spec_addLimbs_e2 N m1 v4 v3 v10 v11 v14 = spec_addLimbs_j2 N (spec_addLimbs_e1 N m1 v4 v3) v4 v3 v10 v11 v14:=by
  exact (congrArg (gate N) (show evC (spec_addLimbs_E N) (codeAt (bodyOf Tryz.f64) [1,1,1,1,0,1,0,0,1,1,0,0,1,1,1]) ⟨[(1,.pv (.list (.int .u32)) v4),(5,.own (.int .u32) 90600),(9,.pv (.int .u64) v14),(21,.pv (.list (.int .u32)) v3),(22,.pv (.int .i64) (v3.length:Int)),(23,.pv (.int .i64) v10)],[(90600,.arr 124 (.int .u32) v11)],[]⟩ (kBlock 1 (kSeq (advOf (spec_addLimbs_E N) (codeAt (bodyOf Tryz.f64) [1,1,1,1,0,1,0,0,1,1,1])) (evC (spec_addLimbs_E N) (codeAt (bodyOf Tryz.f64) [1,1,1,1,0,1,0,0,1,1,1])) (kSeq (advOf (spec_addLimbs_E N) (codeAt (bodyOf Tryz.f64) [1,1,1,1,0,1,0,0])) (fun st K=>loopN (advOf (spec_addLimbs_E N) (codeAt (bodyOf Tryz.f64) [1,1,1,1,0,1,0,0])) (evC (spec_addLimbs_E N) (codeAt (bodyOf Tryz.f64) [1,1,1,1,0,1,0,0])) m1 st K) (kBlock 0 (kSeq (advOf (spec_addLimbs_E N) (codeAt (bodyOf Tryz.f64) [1,1,1,1,1])) (evC (spec_addLimbs_E N) (codeAt (bodyOf Tryz.f64) [1,1,1,1,1])) (kEnd (spec_addLimbs_E N) [] Tryz.f64.results.toList [(.list (.int .u32))])))))) = spec_addLimbs_g2 N v4 v3 v10 v11 (spec_addLimbs_e1 N m1 v4 v3) v14 from by kernel_rfl)).trans (by rfl)
theorem spec_addLimbs_t1 (N:Nat):∀ (n:Nat) (v4:(List Int)) (v3:(List Int)) (v9:Int) (v10:Int) (v11:(List Int)),spec_addLimbs_e1 N n v4 v3 v9 v10 v11 = spec_addLimbs_l1 N n v4 v3 v9 v10 v11
  | 0,_,_,_,_,_=>rfl
  | n + 1,v4,v3,v9,v10,v11=>by
    have h2:(spec_addLimbs_e2 N n v4 v3) = (spec_addLimbs_j2 N (spec_addLimbs_e1 N n v4 v3) v4 v3):=by funext v10 v11 v14; exact spec_addLimbs_t2 N n v4 v3 v10 v11 v14
    have h:spec_addLimbs_e1 N n v4 v3 = spec_addLimbs_l1 N n v4 v3:=by funext v9 v10 v11; exact spec_addLimbs_t1 N n v4 v3 v9 v10 v11
    exact (show spec_addLimbs_e1 N (n + 1) v4 v3 v9 v10 v11 = spec_addLimbs_g1 N v4 v3 (spec_addLimbs_e2 N n v4 v3) (spec_addLimbs_e1 N n v4 v3) v9 v10 v11 from by kernel_rfl).trans (by rw [h2,h]; rfl)
theorem spec_addLimbs_t0 (N:Nat) (v3:(List Int)) (v4:(List Int)):spec_addLimbs_e0 N v3 v4 = spec_addLimbs_j0 N v3 v4:=by
  have h1:(spec_addLimbs_e1 N N) = (spec_addLimbs_l1 N N):=by funext v4 v3 v9 v10 v11; exact spec_addLimbs_t1 N N v4 v3 v9 v10 v11
  exact (congrArg (gate N) (show evC (spec_addLimbs_E N) (codeAt (bodyOf Tryz.f64) [1,1]) ⟨[(0,.pv (.list (.int .u32)) v3),(1,.pv (.list (.int .u32)) v4)],[],[]⟩ (kEnd (spec_addLimbs_E N) [] Tryz.f64.results.toList [(.list (.int .u32))]) = spec_addLimbs_g0 N (spec_addLimbs_e1 N N) v3 v4 from by kernel_rfl)).trans (by rw [h1]; rfl)
theorem spec_addLimbs_t (N:Nat) (v1:(List Int)) (v2:(List Int)):evF (spec_addLimbs_E N) [] Tryz.f64 [.k (.list (.int .u32)),.k (.list (.int .u32))] [(.list (.int .u32))] (v1,v2,()) = spec_addLimbs N v1 v2:=by
  have h0:(spec_addLimbs_e0 N) = (spec_addLimbs_j0 N):=by funext v3 v4; exact spec_addLimbs_t0 N v3 v4
  exact (show evF (spec_addLimbs_E N) [] Tryz.f64 [.k (.list (.int .u32)),.k (.list (.int .u32))] [(.list (.int .u32))] (v1,v2,()) = spec_addLimbs_g N v1 v2 (spec_addLimbs_e0 N) from by kernel_rfl).trans (by rw [h0]; rfl)
noncomputable def spec_addLimbs_con (N:Nat):Con:=⟨64,[.k (.list (.int .u32)),.k (.list (.int .u32))],[(.list (.int .u32))],fun x=>spec_addLimbs N x.1 x.2.1⟩
theorem spec_addLimbs_s (N:Nat):(spec_addLimbs_con N).Sound Tryz.prog [] :=
  Con.sound_of (c:=spec_addLimbs_con N) (E:=(spec_addLimbs_E N)) (idle:=[]) Tryz.func64 (by kernel_rfl) (by kernel_rfl) ⟨(allCons (spec_trim_s N) allNil),allNil,rfl⟩ allNil (fun x y h=>(spec_addLimbs_t N x.1 x.2.1).trans h)
/-- pub-orthodrome/spec.cmpLimbs -/
noncomputable def spec_cmpLimbs_E (N:Nat):Env:=⟨Tryz.prog,N,[],[(0,⟨[],[],[],[],[],[0,1],[],none⟩),(1,⟨[],[],[],[],[],[0,1],[],none⟩),(2,⟨[],[],[],[],[],[0,1,10],[],none⟩),(3,⟨[],[],[],[],[],[15],[],none⟩),(4,⟨[],[],[],[],[],[],[],none⟩),(5,⟨[],[],[],[],[],[0,1],[],none⟩),(6,⟨[],[],[],[],[],[0,1,5],[],none⟩),(7,⟨[],[],[],[],[],[0,1,5],[],none⟩),(8,⟨[],[],[],[],[],[0,1,5],[],none⟩),(9,⟨[],[],[],[],[],[0,1,5,31],[],none⟩),(10,⟨[],[],[],[],[],[40],[],none⟩),(11,⟨[],[],[],[],[],[],[],none⟩),(12,⟨[],[],[],[],[],[],[],none⟩)],kdL [],[],[],[],[61,89,92,95,99,105,108,112]⟩
def spec_cmpLimbs_g0 (N:Nat) (v1:(List Int)) (v2:(List Int)) (r0:Int→Option (Int)) (v7:Int):Option (Int) :=
  (bif (decide ((v7:Int) ≥ 0)) then ((nth v1 v7).bind fun v8=>(nth v2 v7).bind fun v9=>(bif (v8 != v9) then ((nth v1 v7).bind fun v10=>(nth v2 v7).bind fun v11=>(bif (decide ((v10:Int) < v11)) then (some (-1)) else (some 1))) else ((r0 (IntKind.i64.wrap (v7 - 1)))))) else (some 0))
def spec_cmpLimbs_l0 (N:Nat):Nat→(List Int)→(List Int)→Int→Option (Int)
  | 0,_,_,_=>none
  | n + 1,v1,v2,v7=>spec_cmpLimbs_g0 N v1 v2 (spec_cmpLimbs_l0 N n v1 v2) v7
def spec_cmpLimbs_g (N:Nat) (v1:(List Int)) (v2:(List Int)) (c0:(List Int)→(List Int)→Int→Option (Int)):Option (Int) :=
  (bif ((v1.length:Int) != (v2.length:Int)) then (bif (decide (((v1.length:Int):Int) < (v2.length:Int))) then (some (-1)) else (some 1)) else ((c0 v1 v2 (IntKind.i64.wrap ((v1.length:Int) - 1)))))
def spec_cmpLimbs (N:Nat) (v1:(List Int)) (v2:(List Int)):Option (Int) :=
  spec_cmpLimbs_g N v1 v2 (spec_cmpLimbs_l0 N N)
set_option maxRecDepth 100000
noncomputable def spec_cmpLimbs_e0 (N:Nat) (n:Nat) (v1:(List Int)) (v2:(List Int)) (v7:Int):Option (HR [(.int .i64)]) :=
  loopN (advOf (spec_cmpLimbs_E N) (codeAt (bodyOf Tryz.f65) [1,1,0,1,0,0])) (evC (spec_cmpLimbs_E N) (codeAt (bodyOf Tryz.f65) [1,1,0,1,0,0])) n ⟨[(0,.pv (.list (.int .u32)) v1),(1,.pv (.list (.int .u32)) v2),(5,.pv (.int .i64) v7)],[],[]⟩ (kBlock 0 (kSeq (advOf (spec_cmpLimbs_E N) (codeAt (bodyOf Tryz.f65) [1,1,1])) (evC (spec_cmpLimbs_E N) (codeAt (bodyOf Tryz.f65) [1,1,1])) (kEnd (spec_cmpLimbs_E N) [] Tryz.f65.results.toList [(.int .i64)])))
theorem spec_cmpLimbs_t0 (N:Nat):∀ (n:Nat) (v1:(List Int)) (v2:(List Int)) (v7:Int),spec_cmpLimbs_e0 N n v1 v2 v7 = spec_cmpLimbs_l0 N n v1 v2 v7
  | 0,_,_,_=>rfl
  | n + 1,v1,v2,v7=>by
    have h:spec_cmpLimbs_e0 N n v1 v2 = spec_cmpLimbs_l0 N n v1 v2:=by funext v7; exact spec_cmpLimbs_t0 N n v1 v2 v7
    exact (show spec_cmpLimbs_e0 N (n + 1) v1 v2 v7 = spec_cmpLimbs_g0 N v1 v2 (spec_cmpLimbs_e0 N n v1 v2) v7 from by kernel_rfl).trans (by rw [h]; rfl)
theorem spec_cmpLimbs_t (N:Nat) (v1:(List Int)) (v2:(List Int)):evF (spec_cmpLimbs_E N) [] Tryz.f65 [.k (.list (.int .u32)),.k (.list (.int .u32))] [(.int .i64)] (v1,v2,()) = spec_cmpLimbs N v1 v2:=by
  have h0:(spec_cmpLimbs_e0 N N) = (spec_cmpLimbs_l0 N N):=by funext v1 v2 v7; exact spec_cmpLimbs_t0 N N v1 v2 v7
  exact (show evF (spec_cmpLimbs_E N) [] Tryz.f65 [.k (.list (.int .u32)),.k (.list (.int .u32))] [(.int .i64)] (v1,v2,()) = spec_cmpLimbs_g N v1 v2 (spec_cmpLimbs_e0 N N) from by kernel_rfl).trans (by rw [h0]; rfl)
noncomputable def spec_cmpLimbs_con (N:Nat):Con:=⟨65,[.k (.list (.int .u32)),.k (.list (.int .u32))],[(.int .i64)],fun x=>spec_cmpLimbs N x.1 x.2.1⟩
theorem spec_cmpLimbs_s (N:Nat):(spec_cmpLimbs_con N).Sound Tryz.prog [] :=
  Con.sound_of (c:=spec_cmpLimbs_con N) (E:=(spec_cmpLimbs_E N)) (idle:=[]) Tryz.func65 (by kernel_rfl) (by kernel_rfl) ⟨allNil,allNil,rfl⟩ allNil (fun x y h=>(spec_cmpLimbs_t N x.1 x.2.1).trans h)
/-- pub-orthodrome/spec.subLimbs -/
noncomputable def spec_subLimbs_E (N:Nat):Env:=⟨Tryz.prog,N,[spec_trim_con N],[(0,⟨[],[],[],[],[],[0,1],[],none⟩),(1,⟨[],[],[],[],[],[0,1],[],none⟩),(2,⟨[],[],[],[],[],[0,1,5],[12],none⟩),(3,⟨[],[],[],[],[],[0,1,5,6],[12],none⟩),(4,⟨[(5,124,(.int .u32),90400)],[],[],[],[],[1,5,6,13,14,15],[90400],none⟩),(5,⟨[],[],[],[],[],[1,5,6,13,14,15],[90400],none⟩),(6,⟨[],[],[],[],[],[1,5,6,7,8,13,14,15],[90400],none⟩),(7,⟨[],[],[],[],[],[1,5,7,8,9,13,14,15],[90400],none⟩),(8,⟨[],[],[],[],[],[1,5,7,8,9,13,14,15,24],[90400],none⟩),(9,⟨[],[],[],[],[],[1,5,8,9,13,14,15],[90400],some N⟩),(10,⟨[],[],[],[],[],[1,5,6,8,9,13,14,15],[90400],none⟩),(11,⟨[],[],[],[],[],[1,5,6,8,9,13,14,15,35],[90400],none⟩),(12,⟨[],[],[],[],[],[1,5,6,8,9,13,14,15],[90400],some N⟩),(13,⟨[],[],[],[],[],[1,5,6,13,14,15],[46],none⟩),(14,⟨[],[],[],[],[],[5],[90400],none⟩)],kdL [(124,(.int .u32))],[],[],[],[61,89,92,95,99,105,108,112]⟩
def spec_subLimbs_g2 (N:Nat) (v2:(List Int)) (v1:(List Int)) (v11:Int) (v13:Int) (v9:Int) (v10:(List Int)) (r0:Int→Int→(List Int)→Option ((List Int))) (v14:Int):Option ((List Int)) :=
  (lim ((v10.length + ([(IntKind.u32.wrap (IntKind.u64.wrap ((IntKind.u64.wrap ((IntKind.u64.wrap v11) + (IntKind.u64.wrap (v14 * 2 ^ (min (32:Int).toNat (IntKind.bits .u64)))))) - v13)))]:List Int).length) * 4)).bind fun _=>((r0 v14 (IntKind.i64.wrap (v9 + 1)) (v10 ++ ([(IntKind.u32.wrap (IntKind.u64.wrap ((IntKind.u64.wrap ((IntKind.u64.wrap v11) + (IntKind.u64.wrap (v14 * 2 ^ (min (32:Int).toNat (IntKind.bits .u64)))))) - v13)))]:List Int))))
def spec_subLimbs_j2 (N:Nat) (r0:Int→Int→(List Int)→Option ((List Int))) (v2:(List Int)) (v1:(List Int)) (v11:Int) (v13:Int) (v9:Int) (v10:(List Int)) (v14:Int):Option ((List Int)) :=
  gate N (spec_subLimbs_g2 N v2 v1 v11 v13 v9 v10 r0 v14)
def spec_subLimbs_g1 (N:Nat) (v2:(List Int)) (v1:(List Int)) (v11:Int) (v9:Int) (v10:(List Int)) (c2:Int→Int→Int→(List Int)→Int→Option ((List Int))) (r0:Int→Int→(List Int)→Option ((List Int))) (v13:Int):Option ((List Int)) :=
  (bif (decide (((IntKind.u64.wrap v11):Int) < v13)) then (c2 v11 v13 v9 v10 1) else (c2 v11 v13 v9 v10 0))
def spec_subLimbs_j1 (N:Nat) (r0:Int→Int→(List Int)→Option ((List Int))) (v2:(List Int)) (v1:(List Int)) (v11:Int) (v9:Int) (v10:(List Int)) (v13:Int):Option ((List Int)) :=
  gate N (spec_subLimbs_g1 N v2 v1 v11 v9 v10 (spec_subLimbs_j2 N r0 v2 v1) r0 v13)
def spec_subLimbs_g0 (N:Nat) (v2:(List Int)) (v1:(List Int)) (c1:Int→Int→(List Int)→Int→Option ((List Int))) (r0:Int→Int→(List Int)→Option ((List Int))) (v8:Int) (v9:Int) (v10:(List Int)):Option ((List Int)) :=
  (bif (decide ((v9:Int) < (v1.length:Int))) then ((nth v1 v9).bind fun v11=>(bif (decide ((v9:Int) < (v2.length:Int))) then ((nth v2 v9).bind fun v12=>(c1 v11 v9 v10 (IntKind.u64.wrap (v8 + (IntKind.u64.wrap v12))))) else (c1 v11 v9 v10 v8))) else ((spec_trim N v10).bind fun v15=>(some v15)))
def spec_subLimbs_l0 (N:Nat):Nat→(List Int)→(List Int)→Int→Int→(List Int)→Option ((List Int))
  | 0,_,_,_,_,_=>none
  | n + 1,v2,v1,v8,v9,v10=>spec_subLimbs_g0 N v2 v1 (spec_subLimbs_j1 N (spec_subLimbs_l0 N n v2 v1) v2 v1) (spec_subLimbs_l0 N n v2 v1) v8 v9 v10
def spec_subLimbs_g (N:Nat) (v1:(List Int)) (v2:(List Int)) (c0:(List Int)→(List Int)→Int→Int→(List Int)→Option ((List Int))):Option ((List Int)) :=
  ((mkn 0 (v1.length:Int) 4).bind fun v3=>((c0 v2 v1 0 0 (List.replicate v3 (0:Int)))))
def spec_subLimbs (N:Nat) (v1:(List Int)) (v2:(List Int)):Option ((List Int)) :=
  spec_subLimbs_g N v1 v2 (spec_subLimbs_l0 N N)
set_option maxRecDepth 100000
noncomputable def spec_subLimbs_e2 (N:Nat) (m0:Nat) (v2:(List Int)) (v1:(List Int)) (v11:Int) (v13:Int) (v9:Int) (v10:(List Int)) (v14:Int):Option (HR [(.list (.int .u32))]) :=
  gate N (evC (spec_subLimbs_E N) (codeAt (bodyOf Tryz.f66) [1,1,1,0,1,0,0,1,1,0,0,1,1,1,1,1]) ⟨[(1,.pv (.list (.int .u32)) v2),(5,.own (.int .u32) 90400),(6,.pv (.int .u64) v14),(8,.pv (.int .u32) v11),(9,.pv (.int .u64) v13),(13,.pv (.list (.int .u32)) v1),(14,.pv (.int .i64) (v1.length:Int)),(15,.pv (.int .i64) v9)],[(90400,.arr 124 (.int .u32) v10)],[]⟩ (kBlock 1 (kSeq (advOf (spec_subLimbs_E N) (codeAt (bodyOf Tryz.f66) [1,1,1,0,1,0,0,1,1,1])) (evC (spec_subLimbs_E N) (codeAt (bodyOf Tryz.f66) [1,1,1,0,1,0,0,1,1,1])) (kSeq (advOf (spec_subLimbs_E N) (codeAt (bodyOf Tryz.f66) [1,1,1,0,1,0,0])) (fun st K=>loopN (advOf (spec_subLimbs_E N) (codeAt (bodyOf Tryz.f66) [1,1,1,0,1,0,0])) (evC (spec_subLimbs_E N) (codeAt (bodyOf Tryz.f66) [1,1,1,0,1,0,0])) m0 st K) (kBlock 0 (kSeq (advOf (spec_subLimbs_E N) (codeAt (bodyOf Tryz.f66) [1,1,1,1])) (evC (spec_subLimbs_E N) (codeAt (bodyOf Tryz.f66) [1,1,1,1])) (kEnd (spec_subLimbs_E N) [] Tryz.f66.results.toList [(.list (.int .u32))])))))))
noncomputable def spec_subLimbs_e1 (N:Nat) (m0:Nat) (v2:(List Int)) (v1:(List Int)) (v11:Int) (v9:Int) (v10:(List Int)) (v13:Int):Option (HR [(.list (.int .u32))]) :=
  gate N (evC (spec_subLimbs_E N) (codeAt (bodyOf Tryz.f66) [1,1,1,0,1,0,0,1,1,0,0,1,1,1]) ⟨[(1,.pv (.list (.int .u32)) v2),(5,.own (.int .u32) 90400),(8,.pv (.int .u32) v11),(9,.pv (.int .u64) v13),(13,.pv (.list (.int .u32)) v1),(14,.pv (.int .i64) (v1.length:Int)),(15,.pv (.int .i64) v9)],[(90400,.arr 124 (.int .u32) v10)],[]⟩ (kBlock 1 (kSeq (advOf (spec_subLimbs_E N) (codeAt (bodyOf Tryz.f66) [1,1,1,0,1,0,0,1,1,1])) (evC (spec_subLimbs_E N) (codeAt (bodyOf Tryz.f66) [1,1,1,0,1,0,0,1,1,1])) (kSeq (advOf (spec_subLimbs_E N) (codeAt (bodyOf Tryz.f66) [1,1,1,0,1,0,0])) (fun st K=>loopN (advOf (spec_subLimbs_E N) (codeAt (bodyOf Tryz.f66) [1,1,1,0,1,0,0])) (evC (spec_subLimbs_E N) (codeAt (bodyOf Tryz.f66) [1,1,1,0,1,0,0])) m0 st K) (kBlock 0 (kSeq (advOf (spec_subLimbs_E N) (codeAt (bodyOf Tryz.f66) [1,1,1,1])) (evC (spec_subLimbs_E N) (codeAt (bodyOf Tryz.f66) [1,1,1,1])) (kEnd (spec_subLimbs_E N) [] Tryz.f66.results.toList [(.list (.int .u32))])))))))
noncomputable def spec_subLimbs_e0 (N:Nat) (n:Nat) (v2:(List Int)) (v1:(List Int)) (v8:Int) (v9:Int) (v10:(List Int)):Option (HR [(.list (.int .u32))]) :=
  loopN (advOf (spec_subLimbs_E N) (codeAt (bodyOf Tryz.f66) [1,1,1,0,1,0,0])) (evC (spec_subLimbs_E N) (codeAt (bodyOf Tryz.f66) [1,1,1,0,1,0,0])) n ⟨[(1,.pv (.list (.int .u32)) v2),(5,.own (.int .u32) 90400),(6,.pv (.int .u64) v8),(13,.pv (.list (.int .u32)) v1),(14,.pv (.int .i64) (v1.length:Int)),(15,.pv (.int .i64) v9)],[(90400,.arr 124 (.int .u32) v10)],[]⟩ (kBlock 0 (kSeq (advOf (spec_subLimbs_E N) (codeAt (bodyOf Tryz.f66) [1,1,1,1])) (evC (spec_subLimbs_E N) (codeAt (bodyOf Tryz.f66) [1,1,1,1])) (kEnd (spec_subLimbs_E N) [] Tryz.f66.results.toList [(.list (.int .u32))])))
theorem spec_subLimbs_t2 (N:Nat) (m0:Nat) (v2:(List Int)) (v1:(List Int)) (v11:Int) (v13:Int) (v9:Int) (v10:(List Int)) (v14:Int):spec_subLimbs_e2 N m0 v2 v1 v11 v13 v9 v10 v14 = spec_subLimbs_j2 N (spec_subLimbs_e0 N m0 v2 v1) v2 v1 v11 v13 v9 v10 v14:=by
  exact (congrArg (gate N) (show evC (spec_subLimbs_E N) (codeAt (bodyOf Tryz.f66) [1,1,1,0,1,0,0,1,1,0,0,1,1,1,1,1]) ⟨[(1,.pv (.list (.int .u32)) v2),(5,.own (.int .u32) 90400),(6,.pv (.int .u64) v14),(8,.pv (.int .u32) v11),(9,.pv (.int .u64) v13),(13,.pv (.list (.int .u32)) v1),(14,.pv (.int .i64) (v1.length:Int)),(15,.pv (.int .i64) v9)],[(90400,.arr 124 (.int .u32) v10)],[]⟩ (kBlock 1 (kSeq (advOf (spec_subLimbs_E N) (codeAt (bodyOf Tryz.f66) [1,1,1,0,1,0,0,1,1,1])) (evC (spec_subLimbs_E N) (codeAt (bodyOf Tryz.f66) [1,1,1,0,1,0,0,1,1,1])) (kSeq (advOf (spec_subLimbs_E N) (codeAt (bodyOf Tryz.f66) [1,1,1,0,1,0,0])) (fun st K=>loopN (advOf (spec_subLimbs_E N) (codeAt (bodyOf Tryz.f66) [1,1,1,0,1,0,0])) (evC (spec_subLimbs_E N) (codeAt (bodyOf Tryz.f66) [1,1,1,0,1,0,0])) m0 st K) (kBlock 0 (kSeq (advOf (spec_subLimbs_E N) (codeAt (bodyOf Tryz.f66) [1,1,1,1])) (evC (spec_subLimbs_E N) (codeAt (bodyOf Tryz.f66) [1,1,1,1])) (kEnd (spec_subLimbs_E N) [] Tryz.f66.results.toList [(.list (.int .u32))])))))) = spec_subLimbs_g2 N v2 v1 v11 v13 v9 v10 (spec_subLimbs_e0 N m0 v2 v1) v14 from by kernel_rfl)).trans (by rfl)
theorem spec_subLimbs_t1 (N:Nat) (m0:Nat) (v2:(List Int)) (v1:(List Int)) (v11:Int) (v9:Int) (v10:(List Int)) (v13:Int):spec_subLimbs_e1 N m0 v2 v1 v11 v9 v10 v13 = spec_subLimbs_j1 N (spec_subLimbs_e0 N m0 v2 v1) v2 v1 v11 v9 v10 v13:=by
  have h2:(spec_subLimbs_e2 N m0 v2 v1) = (spec_subLimbs_j2 N (spec_subLimbs_e0 N m0 v2 v1) v2 v1):=by funext v11 v13 v9 v10 v14; exact spec_subLimbs_t2 N m0 v2 v1 v11 v13 v9 v10 v14
  exact (congrArg (gate N) (show evC (spec_subLimbs_E N) (codeAt (bodyOf Tryz.f66) [1,1,1,0,1,0,0,1,1,0,0,1,1,1]) ⟨[(1,.pv (.list (.int .u32)) v2),(5,.own (.int .u32) 90400),(8,.pv (.int .u32) v11),(9,.pv (.int .u64) v13),(13,.pv (.list (.int .u32)) v1),(14,.pv (.int .i64) (v1.length:Int)),(15,.pv (.int .i64) v9)],[(90400,.arr 124 (.int .u32) v10)],[]⟩ (kBlock 1 (kSeq (advOf (spec_subLimbs_E N) (codeAt (bodyOf Tryz.f66) [1,1,1,0,1,0,0,1,1,1])) (evC (spec_subLimbs_E N) (codeAt (bodyOf Tryz.f66) [1,1,1,0,1,0,0,1,1,1])) (kSeq (advOf (spec_subLimbs_E N) (codeAt (bodyOf Tryz.f66) [1,1,1,0,1,0,0])) (fun st K=>loopN (advOf (spec_subLimbs_E N) (codeAt (bodyOf Tryz.f66) [1,1,1,0,1,0,0])) (evC (spec_subLimbs_E N) (codeAt (bodyOf Tryz.f66) [1,1,1,0,1,0,0])) m0 st K) (kBlock 0 (kSeq (advOf (spec_subLimbs_E N) (codeAt (bodyOf Tryz.f66) [1,1,1,1])) (evC (spec_subLimbs_E N) (codeAt (bodyOf Tryz.f66) [1,1,1,1])) (kEnd (spec_subLimbs_E N) [] Tryz.f66.results.toList [(.list (.int .u32))])))))) = spec_subLimbs_g1 N v2 v1 v11 v9 v10 (spec_subLimbs_e2 N m0 v2 v1) (spec_subLimbs_e0 N m0 v2 v1) v13 from by kernel_rfl)).trans (by rw [h2]; rfl)
theorem spec_subLimbs_t0 (N:Nat):∀ (n:Nat) (v2:(List Int)) (v1:(List Int)) (v8:Int) (v9:Int) (v10:(List Int)),spec_subLimbs_e0 N n v2 v1 v8 v9 v10 = spec_subLimbs_l0 N n v2 v1 v8 v9 v10
  | 0,_,_,_,_,_=>rfl
  | n + 1,v2,v1,v8,v9,v10=>by
    have h1:(spec_subLimbs_e1 N n v2 v1) = (spec_subLimbs_j1 N (spec_subLimbs_e0 N n v2 v1) v2 v1):=by funext v11 v9 v10 v13; exact spec_subLimbs_t1 N n v2 v1 v11 v9 v10 v13
    have h:spec_subLimbs_e0 N n v2 v1 = spec_subLimbs_l0 N n v2 v1:=by funext v8 v9 v10; exact spec_subLimbs_t0 N n v2 v1 v8 v9 v10
    exact (show spec_subLimbs_e0 N (n + 1) v2 v1 v8 v9 v10 = spec_subLimbs_g0 N v2 v1 (spec_subLimbs_e1 N n v2 v1) (spec_subLimbs_e0 N n v2 v1) v8 v9 v10 from by kernel_rfl).trans (by rw [h1,h]; rfl)
theorem spec_subLimbs_t (N:Nat) (v1:(List Int)) (v2:(List Int)):evF (spec_subLimbs_E N) [] Tryz.f66 [.k (.list (.int .u32)),.k (.list (.int .u32))] [(.list (.int .u32))] (v1,v2,()) = spec_subLimbs N v1 v2:=by
  have h0:(spec_subLimbs_e0 N N) = (spec_subLimbs_l0 N N):=by funext v2 v1 v8 v9 v10; exact spec_subLimbs_t0 N N v2 v1 v8 v9 v10
  exact (show evF (spec_subLimbs_E N) [] Tryz.f66 [.k (.list (.int .u32)),.k (.list (.int .u32))] [(.list (.int .u32))] (v1,v2,()) = spec_subLimbs_g N v1 v2 (spec_subLimbs_e0 N N) from by kernel_rfl).trans (by rw [h0]; rfl)
noncomputable def spec_subLimbs_con (N:Nat):Con:=⟨66,[.k (.list (.int .u32)),.k (.list (.int .u32))],[(.list (.int .u32))],fun x=>spec_subLimbs N x.1 x.2.1⟩
theorem spec_subLimbs_s (N:Nat):(spec_subLimbs_con N).Sound Tryz.prog [] :=
  Con.sound_of (c:=spec_subLimbs_con N) (E:=(spec_subLimbs_E N)) (idle:=[]) Tryz.func66 (by kernel_rfl) (by kernel_rfl) ⟨(allCons (spec_trim_s N) allNil),allNil,rfl⟩ allNil (fun x y h=>(spec_subLimbs_t N x.1 x.2.1).trans h)
/-- (pub-orthodrome/spec.Whole).Add -/
noncomputable def spec_Whole_Add_E (N:Nat):Env:=⟨Tryz.prog,N,[spec_addLimbs_con N,spec_cmpLimbs_con N,spec_subLimbs_con N],[(0,⟨[],[],[],[],[],[0,1],[],none⟩),(1,⟨[],[],[],[],[],[2,3,4],[2,3,4],none⟩),(2,⟨[],[],[],[],[],[2,3,4,9],[2,3,4],none⟩),(3,⟨[],[],[],[],[],[2,3,4],[2,3,4],none⟩),(4,⟨[],[],[],[],[],[2,3,4,22],[2,3,4],none⟩),(5,⟨[],[],[],[],[],[2,3,4,22,23],[2,3,4],none⟩),(7,⟨[],[],[],[],[],[2,3,4,26],[2,3,4],none⟩),(8,⟨[],[],[],[],[],[2,3,4],[2,3,4],none⟩)],kdL [],[],[],[],[61,89,92,95,99,105,108,112]⟩
def spec_Whole_Add_g (N:Nat) (v1:(Bool×((List Int)×Unit))) (v2:(Bool×((List Int)×Unit))):Option ((Bool×((List Int)×Unit))) :=
  (bif (v1.1 == v2.1) then ((spec_addLimbs N v1.2.1 v2.2.1).bind fun v3=>(some (v1.1,v3,()))) else ((spec_cmpLimbs N v1.2.1 v2.2.1).bind fun v4=>(bif (v4 == 0) then (some (false,([]:List Int),())) else (bif (v4 == 1) then ((spec_subLimbs N v1.2.1 v2.2.1).bind fun v5=>(some (v1.1,v5,()))) else ((spec_subLimbs N v2.2.1 v1.2.1).bind fun v6=>(some (v2.1,v6,())))))))
def spec_Whole_Add (N:Nat) (v1:(Bool×((List Int)×Unit))) (v2:(Bool×((List Int)×Unit))):Option ((Bool×((List Int)×Unit))) :=
  spec_Whole_Add_g N v1 v2
set_option maxRecDepth 100000
theorem spec_Whole_Add_t (N:Nat) (v1:(Bool×((List Int)×Unit))) (v2:(Bool×((List Int)×Unit))):evF (spec_Whole_Add_E N) [] Tryz.f27 [.k (.pair .bool (.pair (.list (.int .u32)) .unit)),.k (.pair .bool (.pair (.list (.int .u32)) .unit))] [(.pair .bool (.pair (.list (.int .u32)) .unit))] (v1,v2,()) = spec_Whole_Add N v1 v2:=by
  exact (show evF (spec_Whole_Add_E N) [] Tryz.f27 [.k (.pair .bool (.pair (.list (.int .u32)) .unit)),.k (.pair .bool (.pair (.list (.int .u32)) .unit))] [(.pair .bool (.pair (.list (.int .u32)) .unit))] (v1,v2,()) = spec_Whole_Add_g N v1 v2 from by kernel_rfl).trans (by rfl)
noncomputable def spec_Whole_Add_con (N:Nat):Con:=⟨27,[.k (.pair .bool (.pair (.list (.int .u32)) .unit)),.k (.pair .bool (.pair (.list (.int .u32)) .unit))],[(.pair .bool (.pair (.list (.int .u32)) .unit))],fun x=>spec_Whole_Add N x.1 x.2.1⟩
theorem spec_Whole_Add_s (N:Nat):(spec_Whole_Add_con N).Sound Tryz.prog [] :=
  Con.sound_of (c:=spec_Whole_Add_con N) (E:=(spec_Whole_Add_E N)) (idle:=[]) Tryz.func27 (by kernel_rfl) (by kernel_rfl) ⟨(allCons (spec_addLimbs_s N) (allCons (spec_cmpLimbs_s N) (allCons (spec_subLimbs_s N) allNil))),allNil,rfl⟩ allNil (fun x y h=>(spec_Whole_Add_t N x.1 x.2.1).trans h)
/-- (pub-orthodrome/spec.Dyadic).Add -/
noncomputable def spec_Dyadic_Add_E (N:Nat):Env:=⟨Tryz.prog,N,[spec_Dyadic_Sign_con N,spec_Whole_Up_con N,spec_Whole_Add_con N],[(0,⟨[],[],[],[],[],[0,1],[],none⟩),(1,⟨[],[],[],[],[],[2,3,4],[2,3,4],none⟩),(2,⟨[],[],[],[],[],[2,3,4,5],[2,3,4],none⟩),(4,⟨[],[],[],[],[],[2,3,4,10],[2,3,4],none⟩),(6,⟨[],[],[],[],[],[2,3,4,15],[2,3,4],none⟩),(7,⟨[],[],[],[],[],[2,3,4],[2,3,4],none⟩)],kdL [],[],[],[],[61,89,92,95,99,105,108,112]⟩
def spec_Dyadic_Add_g (N:Nat) (v1:((Bool×((List Int)×Unit))×(Int×Unit))) (v2:((Bool×((List Int)×Unit))×(Int×Unit))):Option (((Bool×((List Int)×Unit))×(Int×Unit))) :=
  ((spec_Dyadic_Sign N ((v1.1.1,v1.1.2.1,()),v1.2.1,())).bind fun v3=>(bif (v3 == 0) then (some ((v2.1.1,v2.1.2.1,()),v2.2.1,())) else ((spec_Dyadic_Sign N ((v2.1.1,v2.1.2.1,()),v2.2.1,())).bind fun v4=>(bif (v4 == 0) then (some ((v1.1.1,v1.1.2.1,()),v1.2.1,())) else (bif (decide ((v1.2.1:Int) > v2.2.1)) then ((spec_Whole_Up N (v1.1.1,v1.1.2.1,()) (IntKind.i64.wrap (v1.2.1 - v2.2.1))).bind fun v5=>(spec_Whole_Add N v5 (v2.1.1,v2.1.2.1,())).bind fun v6=>(some ((v6.1,v6.2.1,()),v2.2.1,()))) else ((spec_Whole_Up N (v2.1.1,v2.1.2.1,()) (IntKind.i64.wrap (v2.2.1 - v1.2.1))).bind fun v7=>(spec_Whole_Add N v7 (v1.1.1,v1.1.2.1,())).bind fun v8=>(some ((v8.1,v8.2.1,()),v1.2.1,()))))))))
def spec_Dyadic_Add (N:Nat) (v1:((Bool×((List Int)×Unit))×(Int×Unit))) (v2:((Bool×((List Int)×Unit))×(Int×Unit))):Option (((Bool×((List Int)×Unit))×(Int×Unit))) :=
  spec_Dyadic_Add_g N v1 v2
set_option maxRecDepth 100000
theorem spec_Dyadic_Add_t (N:Nat) (v1:((Bool×((List Int)×Unit))×(Int×Unit))) (v2:((Bool×((List Int)×Unit))×(Int×Unit))):evF (spec_Dyadic_Add_E N) [] Tryz.f12 [.k KD,.k KD] [KD] (v1,v2,()) = spec_Dyadic_Add N v1 v2:=by
  exact (show evF (spec_Dyadic_Add_E N) [] Tryz.f12 [.k KD,.k KD] [KD] (v1,v2,()) = spec_Dyadic_Add_g N v1 v2 from by kernel_rfl).trans (by rfl)
noncomputable def spec_Dyadic_Add_con (N:Nat):Con:=⟨12,[.k KD,.k KD],[KD],fun x=>spec_Dyadic_Add N x.1 x.2.1⟩
theorem spec_Dyadic_Add_s (N:Nat):(spec_Dyadic_Add_con N).Sound Tryz.prog [] :=
  Con.sound_of (c:=spec_Dyadic_Add_con N) (E:=(spec_Dyadic_Add_E N)) (idle:=[]) Tryz.func12 (by kernel_rfl) (by kernel_rfl) ⟨(allCons (spec_Dyadic_Sign_s N) (allCons (spec_Whole_Up_s N) (allCons (spec_Whole_Add_s N) allNil))),allNil,rfl⟩ allNil (fun x y h=>(spec_Dyadic_Add_t N x.1 x.2.1).trans h)
/-- pub-orthodrome/spec.WholeOf -/
noncomputable def spec_WholeOf_E (N:Nat):Env:=⟨Tryz.prog,N,[spec_trim_con N],[(0,⟨[],[],[],[],[],[0],[],none⟩),(1,⟨[],[],[],[],[],[0,2],[2],none⟩),(2,⟨[],[],[],[],[],[0,2,3],[2],none⟩),(3,⟨[],[],[],[],[],[0,2,3,7],[2],none⟩),(4,⟨[],[],[],[],[],[0,2,3],[2],some N⟩)],kdL [(124,(.int .u32))],[],[],[],[61,89,92,95,99,105,108,112]⟩
def spec_WholeOf_g0 (N:Nat) (v1:Int) (v2:Int):Option ((Bool×((List Int)×Unit))) :=
  (spec_trim N ([(IntKind.u32.wrap v2),(IntKind.u32.wrap (Int.fdiv v2 (2 ^ (min (32:Int).toNat (IntKind.bits .u64)))))]:List Int)).bind fun v3=>(some ((decide ((v1:Int) < 0)),v3,()))
def spec_WholeOf_j0 (N:Nat) (v1:Int) (v2:Int):Option ((Bool×((List Int)×Unit))) :=
  gate N (spec_WholeOf_g0 N v1 v2)
def spec_WholeOf_g (N:Nat) (v1:Int) (c0:Int→Int→Option ((Bool×((List Int)×Unit)))):Option ((Bool×((List Int)×Unit))) :=
  (bif (decide ((v1:Int) < 0)) then (c0 v1 (IntKind.u64.wrap (0 - (IntKind.u64.wrap v1)))) else (c0 v1 (IntKind.u64.wrap v1)))
def spec_WholeOf (N:Nat) (v1:Int):Option ((Bool×((List Int)×Unit))) :=
  spec_WholeOf_g N v1 (spec_WholeOf_j0 N)
set_option maxRecDepth 100000
noncomputable def spec_WholeOf_e0 (N:Nat) (v1:Int) (v2:Int):Option (HR [(.pair .bool (.pair (.list (.int .u32)) .unit))]) :=
  gate N (evC (spec_WholeOf_E N) (codeAt (bodyOf Tryz.f28) [1,1,1]) ⟨[(0,.pv (.int .i64) v1),(2,.ref 2 0),(3,.pv (.int .u64) v2)],[(2,.box [.pv .bool false,.nils])],[]⟩ (kEnd (spec_WholeOf_E N) [] Tryz.f28.results.toList [(.pair .bool (.pair (.list (.int .u32)) .unit))]))
theorem spec_WholeOf_t0 (N:Nat) (v1:Int) (v2:Int):spec_WholeOf_e0 N v1 v2 = spec_WholeOf_j0 N v1 v2:=by
  exact (congrArg (gate N) (show evC (spec_WholeOf_E N) (codeAt (bodyOf Tryz.f28) [1,1,1]) ⟨[(0,.pv (.int .i64) v1),(2,.ref 2 0),(3,.pv (.int .u64) v2)],[(2,.box [.pv .bool false,.nils])],[]⟩ (kEnd (spec_WholeOf_E N) [] Tryz.f28.results.toList [(.pair .bool (.pair (.list (.int .u32)) .unit))]) = spec_WholeOf_g0 N v1 v2 from by kernel_rfl)).trans (by rfl)
theorem spec_WholeOf_t (N:Nat) (v1:Int):evF (spec_WholeOf_E N) [] Tryz.f28 [.k (.int .i64)] [(.pair .bool (.pair (.list (.int .u32)) .unit))] (v1,()) = spec_WholeOf N v1:=by
  have h0:(spec_WholeOf_e0 N) = (spec_WholeOf_j0 N):=by funext v1 v2; exact spec_WholeOf_t0 N v1 v2
  exact (show evF (spec_WholeOf_E N) [] Tryz.f28 [.k (.int .i64)] [(.pair .bool (.pair (.list (.int .u32)) .unit))] (v1,()) = spec_WholeOf_g N v1 (spec_WholeOf_e0 N) from by kernel_rfl).trans (by rw [h0]; rfl)
noncomputable def spec_WholeOf_con (N:Nat):Con:=⟨28,[.k (.int .i64)],[(.pair .bool (.pair (.list (.int .u32)) .unit))],fun x=>spec_WholeOf N x.1⟩
theorem spec_WholeOf_s (N:Nat):(spec_WholeOf_con N).Sound Tryz.prog [] :=
  Con.sound_of (c:=spec_WholeOf_con N) (E:=(spec_WholeOf_E N)) (idle:=[]) Tryz.func28 (by kernel_rfl) (by kernel_rfl) ⟨(allCons (spec_trim_s N) allNil),allNil,rfl⟩ allNil (fun x y h=>(spec_WholeOf_t N x.1).trans h)
/-- pub-orthodrome/spec.IntOf -/
noncomputable def spec_IntOf_E (N:Nat):Env:=⟨Tryz.prog,N,[spec_WholeOf_con N],[(0,⟨[],[],[],[],[],[0],[],none⟩),(1,⟨[],[],[],[],[],[0,2],[2],none⟩)],kdL [],[],[],[],[61,89,92,95,99,105,108,112]⟩
def spec_IntOf_g (N:Nat) (v1:Int):Option (((Bool×((List Int)×Unit))×(Int×Unit))) :=
  ((spec_WholeOf N v1).bind fun v2=>(some ((v2.1,v2.2.1,()),0,())))
def spec_IntOf (N:Nat) (v1:Int):Option (((Bool×((List Int)×Unit))×(Int×Unit))) :=
  spec_IntOf_g N v1
set_option maxRecDepth 100000
theorem spec_IntOf_t (N:Nat) (v1:Int):evF (spec_IntOf_E N) [] Tryz.f13 [.k (.int .i64)] [KD] (v1,()) = spec_IntOf N v1:=by
  exact (show evF (spec_IntOf_E N) [] Tryz.f13 [.k (.int .i64)] [KD] (v1,()) = spec_IntOf_g N v1 from by kernel_rfl).trans (by rfl)
noncomputable def spec_IntOf_con (N:Nat):Con:=⟨13,[.k (.int .i64)],[KD],fun x=>spec_IntOf N x.1⟩
theorem spec_IntOf_s (N:Nat):(spec_IntOf_con N).Sound Tryz.prog [] :=
  Con.sound_of (c:=spec_IntOf_con N) (E:=(spec_IntOf_E N)) (idle:=[]) Tryz.func13 (by kernel_rfl) (by kernel_rfl) ⟨(allCons (spec_WholeOf_s N) allNil),allNil,rfl⟩ allNil (fun x y h=>(spec_IntOf_t N x.1).trans h)
/-- pub-orthodrome/spec.Mean -/
noncomputable def spec_Mean_E (N:Nat):Env:=⟨Tryz.prog,N,[spec_Dyadic_Add_con N,spec_IntOf_con N],[(0,⟨[],[],[],[],[],[0],[],none⟩),(1,⟨[],[],[],[],[],[0,2,3],[2,3],none⟩),(2,⟨[],[],[],[],[],[0,2,3,5,6],[2,3,5,6],none⟩),(3,⟨[],[],[],[(5,1,(.int .u32)),(6,1,(.int .u32))],[],[0,2,3,5,6,12,13,14],[2,3,5,6],none⟩),(4,⟨[],[],[],[],[],[0,2,3,5,6,12,13,14],[2,3,5,6],none⟩),(5,⟨[],[],[],[],[],[0,2,3,5,6,8,12,13,14],[2,3,5,6,8],none⟩),(6,⟨[],[],[],[],[],[0,2,3,5,6,12,13,14],[2,3,5,6],none⟩),(7,⟨[],[],[],[],[],[0,2,3,5,6],[2,3,5,6],none⟩),(8,⟨[],[],[],[],[],[0,2,3,5,6,9],[2,3,5,6,9],none⟩)],kdL [],[],[],[],[61,89,92,95,99,105,108,112]⟩
def spec_Mean_g0 (N:Nat) (v1:(List (((Bool×((List Int)×Unit))×(Int×Unit))×(((Bool×((List Int)×Unit))×(Int×Unit))×Unit)))) (r0:Int→Bool→(List Int)→Int→Bool→(List Int)→Int→Option ((((Bool×((List Int)×Unit))×(Int×Unit))×(((Bool×((List Int)×Unit))×(Int×Unit))×Unit))×(((Bool×((List Int)×Unit))×(Int×Unit))×(((Bool×((List Int)×Unit))×(Int×Unit))×Unit))×Bool)) (v5:Int) (v6:Bool) (v7:(List Int)) (v8:Int) (v9:Bool) (v10:(List Int)) (v11:Int):Option ((((Bool×((List Int)×Unit))×(Int×Unit))×(((Bool×((List Int)×Unit))×(Int×Unit))×Unit))×(((Bool×((List Int)×Unit))×(Int×Unit))×(((Bool×((List Int)×Unit))×(Int×Unit))×Unit))×Bool) :=
  (bif (decide ((v5:Int) < (v1.length:Int))) then ((nth v1 v5).bind fun v12=>((spec_Dyadic_Add N ((v6,v7,()),v8,()) ((v12.1.1.1,v12.1.1.2.1,()),v12.1.2.1,())).bind fun v13=>(spec_Dyadic_Add N ((v9,v10,()),v11,()) ((v12.2.1.1.1,v12.2.1.1.2.1,()),v12.2.1.2.1,())).bind fun v14=>((r0 (IntKind.i64.wrap (v5 + 1)) v13.1.1 v13.1.2.1 v13.2.1 v14.1.1 v14.1.2.1 v14.2.1)))) else ((spec_IntOf N (v1.length:Int)).bind fun v15=>(some ((((v6,v7,()),v8,()),((v15.1.1,v15.1.2.1,()),v15.2.1,()),()),(((v9,v10,()),v11,()),((v15.1.1,v15.1.2.1,()),v15.2.1,()),()),(decide (((v1.length:Int):Int) > 0))))))
def spec_Mean_l0 (N:Nat):Nat→(List (((Bool×((List Int)×Unit))×(Int×Unit))×(((Bool×((List Int)×Unit))×(Int×Unit))×Unit)))→Int→Bool→(List Int)→Int→Bool→(List Int)→Int→Option ((((Bool×((List Int)×Unit))×(Int×Unit))×(((Bool×((List Int)×Unit))×(Int×Unit))×Unit))×(((Bool×((List Int)×Unit))×(Int×Unit))×(((Bool×((List Int)×Unit))×(Int×Unit))×Unit))×Bool)
  | 0,_,_,_,_,_,_,_,_=>none
  | n + 1,v1,v5,v6,v7,v8,v9,v10,v11=>spec_Mean_g0 N v1 (spec_Mean_l0 N n v1) v5 v6 v7 v8 v9 v10 v11
def spec_Mean_g (N:Nat) (v1:(List (((Bool×((List Int)×Unit))×(Int×Unit))×(((Bool×((List Int)×Unit))×(Int×Unit))×Unit)))) (c0:(List (((Bool×((List Int)×Unit))×(Int×Unit))×(((Bool×((List Int)×Unit))×(Int×Unit))×Unit)))→Int→Bool→(List Int)→Int→Bool→(List Int)→Int→Option ((((Bool×((List Int)×Unit))×(Int×Unit))×(((Bool×((List Int)×Unit))×(Int×Unit))×Unit))×(((Bool×((List Int)×Unit))×(Int×Unit))×(((Bool×((List Int)×Unit))×(Int×Unit))×Unit))×Bool)):Option ((((Bool×((List Int)×Unit))×(Int×Unit))×(((Bool×((List Int)×Unit))×(Int×Unit))×Unit))×(((Bool×((List Int)×Unit))×(Int×Unit))×(((Bool×((List Int)×Unit))×(Int×Unit))×Unit))×Bool) :=
  ((c0 v1 0 false ([]:List Int) 0 false ([]:List Int) 0))
def spec_Mean (N:Nat) (v1:(List (((Bool×((List Int)×Unit))×(Int×Unit))×(((Bool×((List Int)×Unit))×(Int×Unit))×Unit)))):Option ((((Bool×((List Int)×Unit))×(Int×Unit))×(((Bool×((List Int)×Unit))×(Int×Unit))×Unit))×(((Bool×((List Int)×Unit))×(Int×Unit))×(((Bool×((List Int)×Unit))×(Int×Unit))×Unit))×Bool) :=
  spec_Mean_g N v1 (spec_Mean_l0 N N)
set_option maxRecDepth 100000
noncomputable def spec_Mean_e0 (N:Nat) (n:Nat) (v1:(List (((Bool×((List Int)×Unit))×(Int×Unit))×(((Bool×((List Int)×Unit))×(Int×Unit))×Unit)))) (v5:Int) (v6:Bool) (v7:(List Int)) (v8:Int) (v9:Bool) (v10:(List Int)) (v11:Int):Option (HR [(.pair KD (.pair KD .unit)),(.pair KD (.pair KD .unit)),.bool]) :=
  loopN (advOf (spec_Mean_E N) (codeAt (bodyOf Tryz.f5) [1,1,0,1,0,0])) (evC (spec_Mean_E N) (codeAt (bodyOf Tryz.f5) [1,1,0,1,0,0])) n ⟨[(0,.pv (.list (.pair KD (.pair KD .unit))) v1),(2,.ref 2 0),(3,.ref 3 0),(5,.ref 5 0),(6,.ref 6 0),(12,.pv (.list (.pair KD (.pair KD .unit))) v1),(13,.pv (.int .i64) (v1.length:Int)),(14,.pv (.int .i64) v5)],[(2,.box [.pv .bool false,.nils,.pv (.int .i64) 0,.pv .bool false,.nils,.pv (.int .i64) 0]),(3,.box [.pv .bool false,.nils,.pv (.int .i64) 0,.pv .bool false,.nils,.pv (.int .i64) 0]),(5,.box [.pv .bool v6,.pv (.list (.int .u32)) v7,.pv (.int .i64) v8]),(6,.box [.pv .bool v9,.pv (.list (.int .u32)) v10,.pv (.int .i64) v11])],[]⟩ (kBlock 0 (kSeq (advOf (spec_Mean_E N) (codeAt (bodyOf Tryz.f5) [1,1,1])) (evC (spec_Mean_E N) (codeAt (bodyOf Tryz.f5) [1,1,1])) (kEnd (spec_Mean_E N) [] Tryz.f5.results.toList [(.pair KD (.pair KD .unit)),(.pair KD (.pair KD .unit)),.bool])))
theorem spec_Mean_t0 (N:Nat):∀ (n:Nat) (v1:(List (((Bool×((List Int)×Unit))×(Int×Unit))×(((Bool×((List Int)×Unit))×(Int×Unit))×Unit)))) (v5:Int) (v6:Bool) (v7:(List Int)) (v8:Int) (v9:Bool) (v10:(List Int)) (v11:Int),spec_Mean_e0 N n v1 v5 v6 v7 v8 v9 v10 v11 = spec_Mean_l0 N n v1 v5 v6 v7 v8 v9 v10 v11
  | 0,_,_,_,_,_,_,_,_=>rfl
  | n + 1,v1,v5,v6,v7,v8,v9,v10,v11=>by
    have h:spec_Mean_e0 N n v1 = spec_Mean_l0 N n v1:=by funext v5 v6 v7 v8 v9 v10 v11; exact spec_Mean_t0 N n v1 v5 v6 v7 v8 v9 v10 v11
    exact (show spec_Mean_e0 N (n + 1) v1 v5 v6 v7 v8 v9 v10 v11 = spec_Mean_g0 N v1 (spec_Mean_e0 N n v1) v5 v6 v7 v8 v9 v10 v11 from by kernel_rfl).trans (by rw [h]; rfl)
theorem spec_Mean_t (N:Nat) (v1:(List (((Bool×((List Int)×Unit))×(Int×Unit))×(((Bool×((List Int)×Unit))×(Int×Unit))×Unit)))):evF (spec_Mean_E N) [] Tryz.f5 [.k (.list (.pair KD (.pair KD .unit)))] [(.pair KD (.pair KD .unit)),(.pair KD (.pair KD .unit)),.bool] (v1,()) = spec_Mean N v1:=by
  have h0:(spec_Mean_e0 N N) = (spec_Mean_l0 N N):=by funext v1 v5 v6 v7 v8 v9 v10 v11; exact spec_Mean_t0 N N v1 v5 v6 v7 v8 v9 v10 v11
  exact (show evF (spec_Mean_E N) [] Tryz.f5 [.k (.list (.pair KD (.pair KD .unit)))] [(.pair KD (.pair KD .unit)),(.pair KD (.pair KD .unit)),.bool] (v1,()) = spec_Mean_g N v1 (spec_Mean_e0 N N) from by kernel_rfl).trans (by rw [h0]; rfl)
noncomputable def spec_Mean_con (N:Nat):Con:=⟨5,[.k (.list (.pair KD (.pair KD .unit)))],[(.pair KD (.pair KD .unit)),(.pair KD (.pair KD .unit)),.bool],fun x=>spec_Mean N x.1⟩
theorem spec_Mean_s (N:Nat):(spec_Mean_con N).Sound Tryz.prog [] :=
  Con.sound_of (c:=spec_Mean_con N) (E:=(spec_Mean_E N)) (idle:=[]) Tryz.func5 (by kernel_rfl) (by kernel_rfl) ⟨(allCons (spec_Dyadic_Add_s N) (allCons (spec_IntOf_s N) allNil)),allNil,rfl⟩ allNil (fun x y h=>(spec_Mean_t N x.1).trans h)
/-- pub-orthodrome/spec.Finite -/
noncomputable def spec_Finite_E (N:Nat):Env:=⟨Tryz.prog,N,[],[(0,⟨[],[],[],[],[],[0],[],none⟩),(1,⟨[],[],[],[],[],[0],[],none⟩)],kdL [],[],[],[],[61,89,92,95,99,105,108,112]⟩
def spec_Finite_g (N:Nat) (v1:Nat):Option (Bool) :=
  ((Ieee.double.sub v1 v1).bind fun v2=>(some (feq v2 0)))
def spec_Finite (N:Nat) (v1:Nat):Option (Bool) :=
  spec_Finite_g N v1
set_option maxRecDepth 100000
theorem spec_Finite_t (N:Nat) (v1:Nat):evF (spec_Finite_E N) [] Tryz.f52 [.k .float] [.bool] (v1,()) = spec_Finite N v1:=by
  exact (show evF (spec_Finite_E N) [] Tryz.f52 [.k .float] [.bool] (v1,()) = spec_Finite_g N v1 from by kernel_rfl).trans (by rfl)
noncomputable def spec_Finite_con (N:Nat):Con:=⟨52,[.k .float],[.bool],fun x=>spec_Finite N x.1⟩
theorem spec_Finite_s (N:Nat):(spec_Finite_con N).Sound Tryz.prog [] :=
  Con.sound_of (c:=spec_Finite_con N) (E:=(spec_Finite_E N)) (idle:=[]) Tryz.func52 (by kernel_rfl) (by kernel_rfl) ⟨allNil,allNil,rfl⟩ allNil (fun x y h=>(spec_Finite_t N x.1).trans h)
/-- math.Float64bits -/
def math_Float64bits (N:Nat) (v1:Nat):Option Int:=some ((v1:Nat):Int)
noncomputable def math_Float64bits_con (N:Nat):Con:=⟨71,[.k .float],[(.int .u64)],fun x=>math_Float64bits N x.1⟩
theorem math_Float64bits_s (N:Nat):(math_Float64bits_con N).Sound Tryz.prog []:=bits_of Tryz.func71 (by kernel_rfl) (by kernel_rfl) (by kernel_rfl) (by kernel_rfl)
/-- pub-orthodrome/spec.DyadicOf -/
noncomputable def spec_DyadicOf_E (N:Nat):Env:=⟨Tryz.prog,N,[math_Float64bits_con N,spec_WholeOf_con N],[(0,⟨[],[],[],[],[],[0],[],none⟩),(1,⟨[],[],[],[],[],[0,2],[2],none⟩),(2,⟨[],[],[],[],[],[2,3],[2],none⟩),(3,⟨[],[],[],[],[],[2,3,4,5],[2],none⟩),(5,⟨[],[],[],[],[],[2,3,4,5,15],[2],none⟩),(6,⟨[],[],[],[],[],[2,3,4,5,15,18],[2],none⟩),(8,⟨[],[],[],[],[],[2,3,4,5,21],[2],none⟩),(9,⟨[],[],[],[],[],[2,3,4,5],[2],some N⟩),(10,⟨[],[],[],[],[],[2,4,5,25],[2],none⟩),(11,⟨[],[],[],[],[],[2,4,5],[2],some N⟩)],kdL [],[],[],[],[61,89,92,95,99,105,108,112]⟩
def spec_DyadicOf_g1 (N:Nat) (v4:Int) (v5:Int):Option (((Bool×((List Int)×Unit))×(Int×Unit))) :=
  (spec_WholeOf N v5).bind fun v6=>(some ((v6.1,v6.2.1,()),(IntKind.i64.wrap (v4 - 1075)),()))
def spec_DyadicOf_j1 (N:Nat) (v4:Int) (v5:Int):Option (((Bool×((List Int)×Unit))×(Int×Unit))) :=
  gate N (spec_DyadicOf_g1 N v4 v5)
def spec_DyadicOf_g0 (N:Nat) (v2:Int) (c1:Int→Int→Option (((Bool×((List Int)×Unit))×(Int×Unit)))) (v3:Int) (v4:Int):Option (((Bool×((List Int)×Unit))×(Int×Unit))) :=
  (bif ((Int.fdiv v2 (2 ^ (min (63:Int).toNat (IntKind.bits .u64)))) == 1) then (c1 v4 (IntKind.i64.wrap (0 - v3))) else (c1 v4 v3))
def spec_DyadicOf_j0 (N:Nat) (v2:Int) (v3:Int) (v4:Int):Option (((Bool×((List Int)×Unit))×(Int×Unit))) :=
  gate N (spec_DyadicOf_g0 N v2 (spec_DyadicOf_j1 N) v3 v4)
def spec_DyadicOf_g (N:Nat) (v1:Nat) (c0:Int→Int→Int→Option (((Bool×((List Int)×Unit))×(Int×Unit)))):Option (((Bool×((List Int)×Unit))×(Int×Unit))) :=
  ((math_Float64bits N v1).bind fun v2=>(bif ((IntKind.i64.wrap (bits .and .u64 (Int.fdiv v2 (2 ^ (min (52:Int).toNat (IntKind.bits .u64)))) 2047)) == 2047) then (some ((false,([]:List Int),()),0,())) else (bif ((IntKind.i64.wrap (bits .and .u64 (Int.fdiv v2 (2 ^ (min (52:Int).toNat (IntKind.bits .u64)))) 2047)) == 0) then (c0 v2 (IntKind.i64.wrap (bits .and .u64 v2 4503599627370495)) 1) else (c0 v2 (IntKind.i64.wrap ((IntKind.i64.wrap (bits .and .u64 v2 4503599627370495)) + 4503599627370496)) (IntKind.i64.wrap (bits .and .u64 (Int.fdiv v2 (2 ^ (min (52:Int).toNat (IntKind.bits .u64)))) 2047))))))
def spec_DyadicOf (N:Nat) (v1:Nat):Option (((Bool×((List Int)×Unit))×(Int×Unit))) :=
  spec_DyadicOf_g N v1 (spec_DyadicOf_j0 N)
set_option maxRecDepth 100000
noncomputable def spec_DyadicOf_e1 (N:Nat) (v4:Int) (v5:Int):Option (HR [KD]) :=
  gate N (evC (spec_DyadicOf_E N) (codeAt (bodyOf Tryz.f53) [1,1,1,1,1]) ⟨[(2,.ref 2 0),(4,.pv (.int .i64) v5),(5,.pv (.int .i64) v4)],[(2,.box [.pv .bool false,.nils,.pv (.int .i64) 0])],[]⟩ (kEnd (spec_DyadicOf_E N) [] Tryz.f53.results.toList [KD]))
noncomputable def spec_DyadicOf_e0 (N:Nat) (v2:Int) (v3:Int) (v4:Int):Option (HR [KD]) :=
  gate N (evC (spec_DyadicOf_E N) (codeAt (bodyOf Tryz.f53) [1,1,1,1]) ⟨[(2,.ref 2 0),(3,.pv (.int .u64) v2),(4,.pv (.int .i64) v3),(5,.pv (.int .i64) v4)],[(2,.box [.pv .bool false,.nils,.pv (.int .i64) 0])],[]⟩ (kEnd (spec_DyadicOf_E N) [] Tryz.f53.results.toList [KD]))
theorem spec_DyadicOf_t1 (N:Nat) (v4:Int) (v5:Int):spec_DyadicOf_e1 N v4 v5 = spec_DyadicOf_j1 N v4 v5:=by
  exact (congrArg (gate N) (show evC (spec_DyadicOf_E N) (codeAt (bodyOf Tryz.f53) [1,1,1,1,1]) ⟨[(2,.ref 2 0),(4,.pv (.int .i64) v5),(5,.pv (.int .i64) v4)],[(2,.box [.pv .bool false,.nils,.pv (.int .i64) 0])],[]⟩ (kEnd (spec_DyadicOf_E N) [] Tryz.f53.results.toList [KD]) = spec_DyadicOf_g1 N v4 v5 from by kernel_rfl)).trans (by rfl)
theorem spec_DyadicOf_t0 (N:Nat) (v2:Int) (v3:Int) (v4:Int):spec_DyadicOf_e0 N v2 v3 v4 = spec_DyadicOf_j0 N v2 v3 v4:=by
  have h1:(spec_DyadicOf_e1 N) = (spec_DyadicOf_j1 N):=by funext v4 v5; exact spec_DyadicOf_t1 N v4 v5
  exact (congrArg (gate N) (show evC (spec_DyadicOf_E N) (codeAt (bodyOf Tryz.f53) [1,1,1,1]) ⟨[(2,.ref 2 0),(3,.pv (.int .u64) v2),(4,.pv (.int .i64) v3),(5,.pv (.int .i64) v4)],[(2,.box [.pv .bool false,.nils,.pv (.int .i64) 0])],[]⟩ (kEnd (spec_DyadicOf_E N) [] Tryz.f53.results.toList [KD]) = spec_DyadicOf_g0 N v2 (spec_DyadicOf_e1 N) v3 v4 from by kernel_rfl)).trans (by rw [h1]; rfl)
theorem spec_DyadicOf_t (N:Nat) (v1:Nat):evF (spec_DyadicOf_E N) [] Tryz.f53 [.k .float] [KD] (v1,()) = spec_DyadicOf N v1:=by
  have h0:(spec_DyadicOf_e0 N) = (spec_DyadicOf_j0 N):=by funext v2 v3 v4; exact spec_DyadicOf_t0 N v2 v3 v4
  exact (show evF (spec_DyadicOf_E N) [] Tryz.f53 [.k .float] [KD] (v1,()) = spec_DyadicOf_g N v1 (spec_DyadicOf_e0 N) from by kernel_rfl).trans (by rw [h0]; rfl)
noncomputable def spec_DyadicOf_con (N:Nat):Con:=⟨53,[.k .float],[KD],fun x=>spec_DyadicOf N x.1⟩
theorem spec_DyadicOf_s (N:Nat):(spec_DyadicOf_con N).Sound Tryz.prog [] :=
  Con.sound_of (c:=spec_DyadicOf_con N) (E:=(spec_DyadicOf_E N)) (idle:=[]) Tryz.func53 (by kernel_rfl) (by kernel_rfl) ⟨(allCons (math_Float64bits_s N) (allCons (spec_WholeOf_s N) allNil)),allNil,rfl⟩ allNil (fun x y h=>(spec_DyadicOf_t N x.1).trans h)
/-- (pub-orthodrome/spec.Whole).Mul -/
noncomputable def spec_Whole_Mul_E (N:Nat):Env:=⟨Tryz.prog,N,[spec_trim_con N],[(0,⟨[],[],[],[],[],[0,1],[],none⟩),(1,⟨[],[],[],[],[],[2,3,4],[2,3,4],none⟩),(2,⟨[],[],[],[],[],[2,3,4,5],[2,3,4,19],none⟩),(3,⟨[],[],[],[],[],[2,3,4,5,21,22,23],[2,3,4,19],none⟩),(4,⟨[],[],[],[],[],[2,3,4,5,21,22,23],[2,3,4,19],none⟩),(5,⟨[],[],[],[],[],[2,3,4,5,6,7,21,22,23],[2,3,4,19],none⟩),(6,⟨[],[],[],[],[],[2,3,4,5,6,7,8,21,22,23],[2,3,4,19],none⟩),(7,⟨[],[],[],[],[],[2,3,4,5,6,7,8,21,22,23,29,30,31],[2,3,4,19],none⟩),(8,⟨[],[],[],[],[],[2,3,4,5,6,7,8,21,22,23,29,30,31],[2,3,4,19],none⟩),(9,⟨[],[],[],[],[],[2,3,4,5,6,7,8,9,10,21,22,23,29,30,31],[2,3,4,19],none⟩),(10,⟨[],[],[],[],[],[2,3,4,5,6,7,9,11,21,22,23,29,30,31],[2,3,4,19],none⟩),(11,⟨[],[],[],[],[],[2,3,4,5,6,7,11,21,22,23,29,30,31],[2,3,4,19],none⟩),(12,⟨[],[],[],[],[],[2,3,4,5,6,7,8,21,22,23,29,30,31],[2,3,4,19],none⟩),(13,⟨[],[],[],[],[],[2,3,4,5,6,8,21,22,23],[2,3,4,19],none⟩),(14,⟨[],[],[],[],[],[2,3,4,5,21,22,23],[2,3,4,19],none⟩),(15,⟨[],[],[],[],[],[2,3,4,5],[2,3,4,19],none⟩),(16,⟨[],[],[],[],[],[2,3,4,5],[2,3,4],none⟩)],kdL [(124,(.int .u32))],[],[],[],[61,89,92,95,99,105,108,112]⟩
def spec_Whole_Mul_g1 (N:Nat) (v1:(Bool×((List Int)×Unit))) (v2:(Bool×((List Int)×Unit))) (v17:Int) (v19:Int) (r1:Int→Int→(List Int)→Option ((Bool×((List Int)×Unit)))) (r0:Int→(List Int)→Option ((Bool×((List Int)×Unit)))) (v24:Int) (v25:Int) (v26:(List Int)):Option ((Bool×((List Int)×Unit))) :=
  (bif (decide ((v25:Int) < (v2.2.1.length:Int))) then ((nth v2.2.1 v25).bind fun v27=>((chk (IntKind.i64.wrap (v17 + v25)) v26.length).bind fun v28=>(v26[v28]?).bind fun v29=>((chk (IntKind.i64.wrap (v17 + v25)) v26.length).bind fun v30=>((r1 (Int.fdiv (IntKind.u64.wrap ((IntKind.u64.wrap ((IntKind.u64.wrap ((IntKind.u64.wrap v19) * (IntKind.u64.wrap v27))) + (IntKind.u64.wrap v29))) + v24)) (2 ^ (min (32:Int).toNat (IntKind.bits .u64)))) (IntKind.i64.wrap (v25 + 1)) (v26.set v30 (IntKind.u32.wrap (IntKind.u64.wrap ((IntKind.u64.wrap ((IntKind.u64.wrap ((IntKind.u64.wrap v19) * (IntKind.u64.wrap v27))) + (IntKind.u64.wrap v29))) + v24))))))))) else ((chk (IntKind.i64.wrap (v17 + (v2.2.1.length:Int))) v26.length).bind fun v31=>((r0 (IntKind.i64.wrap (v17 + 1)) (v26.set v31 (IntKind.u32.wrap v24))))))
def spec_Whole_Mul_l1 (N:Nat) (r0:Int→(List Int)→Option ((Bool×((List Int)×Unit)))) (v1:(Bool×((List Int)×Unit))) (v2:(Bool×((List Int)×Unit))):Nat→Int→Int→Int→Int→(List Int)→Option ((Bool×((List Int)×Unit)))
  | 0,_,_,_,_,_=>none
  | n + 1,v17,v19,v24,v25,v26=>spec_Whole_Mul_g1 N v1 v2 v17 v19 (spec_Whole_Mul_l1 N r0 v1 v2 n v17 v19) r0 v24 v25 v26
def spec_Whole_Mul_g0 (N:Nat) (v1:(Bool×((List Int)×Unit))) (v2:(Bool×((List Int)×Unit))) (c1:Int→Int→Int→Int→(List Int)→Option ((Bool×((List Int)×Unit)))) (r0:Int→(List Int)→Option ((Bool×((List Int)×Unit)))) (v17:Int) (v18:(List Int)):Option ((Bool×((List Int)×Unit))) :=
  (bif (decide ((v17:Int) < (v1.2.1.length:Int))) then ((nth v1.2.1 v17).bind fun v19=>((c1 v17 v19 0 0 v18))) else ((spec_trim N v18).bind fun v32=>(bif (decide (((v32.length:Int):Int) > 0)) then (some ((!(v1.1 == v2.1)),v32,())) else (some (false,v32,())))))
def spec_Whole_Mul_l0 (N:Nat):Nat→(Bool×((List Int)×Unit))→(Bool×((List Int)×Unit))→Int→(List Int)→Option ((Bool×((List Int)×Unit)))
  | 0,_,_,_,_=>none
  | n + 1,v1,v2,v17,v18=>spec_Whole_Mul_g0 N v1 v2 (spec_Whole_Mul_l1 N (spec_Whole_Mul_l0 N n v1 v2) v1 v2 N) (spec_Whole_Mul_l0 N n v1 v2) v17 v18
def spec_Whole_Mul_g (N:Nat) (v1:(Bool×((List Int)×Unit))) (v2:(Bool×((List Int)×Unit))) (c0:(Bool×((List Int)×Unit))→(Bool×((List Int)×Unit))→Int→(List Int)→Option ((Bool×((List Int)×Unit)))):Option ((Bool×((List Int)×Unit))) :=
  ((mkn (IntKind.i64.wrap ((v1.2.1.length:Int) + (v2.2.1.length:Int))) (IntKind.i64.wrap ((v1.2.1.length:Int) + (v2.2.1.length:Int))) 4).bind fun v3=>((c0 v1 v2 0 (List.replicate v3 (0:Int)))))
def spec_Whole_Mul (N:Nat) (v1:(Bool×((List Int)×Unit))) (v2:(Bool×((List Int)×Unit))):Option ((Bool×((List Int)×Unit))) :=
  spec_Whole_Mul_g N v1 v2 (spec_Whole_Mul_l0 N N)
set_option maxRecDepth 100000
noncomputable def spec_Whole_Mul_e1 (N:Nat) (m0:Nat) (v1:(Bool×((List Int)×Unit))) (v2:(Bool×((List Int)×Unit))) (n:Nat) (v17:Int) (v19:Int) (v24:Int) (v25:Int) (v26:(List Int)):Option (HR [(.pair .bool (.pair (.list (.int .u32)) .unit))]) :=
  loopN (advOf (spec_Whole_Mul_E N) (codeAt (bodyOf Tryz.f72) [1,1,0,1,0,0,1,1,0,0,1,1,0,1,0,0])) (evC (spec_Whole_Mul_E N) (codeAt (bodyOf Tryz.f72) [1,1,0,1,0,0,1,1,0,0,1,1,0,1,0,0])) n ⟨[(2,.ref 2 0),(3,.ref 3 0),(4,.ref 4 0),(5,.own (.int .u32) 19),(6,.pv (.int .i64) v17),(7,.pv (.int .u32) v19),(8,.pv (.int .u64) v24),(21,.pv (.list (.int .u32)) v1.2.1),(22,.pv (.int .i64) (v1.2.1.length:Int)),(23,.pv (.int .i64) v17),(29,.pv (.list (.int .u32)) v2.2.1),(30,.pv (.int .i64) (v2.2.1.length:Int)),(31,.pv (.int .i64) v25)],[(2,.box [.pv .bool v1.1,.pv (.list (.int .u32)) v1.2.1]),(3,.box [.pv .bool v2.1,.pv (.list (.int .u32)) v2.2.1]),(4,.box [.pv .bool false,.nils]),(19,.arr 124 (.int .u32) v26)],[]⟩ (kBlock 2 (kSeq (advOf (spec_Whole_Mul_E N) (codeAt (bodyOf Tryz.f72) [1,1,0,1,0,0,1,1,0,0,1,1,1])) (evC (spec_Whole_Mul_E N) (codeAt (bodyOf Tryz.f72) [1,1,0,1,0,0,1,1,0,0,1,1,1])) (kBlock 1 (kSeq (advOf (spec_Whole_Mul_E N) (codeAt (bodyOf Tryz.f72) [1,1,0,1,0,0,1,1,1])) (evC (spec_Whole_Mul_E N) (codeAt (bodyOf Tryz.f72) [1,1,0,1,0,0,1,1,1])) (kSeq (advOf (spec_Whole_Mul_E N) (codeAt (bodyOf Tryz.f72) [1,1,0,1,0,0])) (fun st K=>loopN (advOf (spec_Whole_Mul_E N) (codeAt (bodyOf Tryz.f72) [1,1,0,1,0,0])) (evC (spec_Whole_Mul_E N) (codeAt (bodyOf Tryz.f72) [1,1,0,1,0,0])) m0 st K) (kBlock 0 (kSeq (advOf (spec_Whole_Mul_E N) (codeAt (bodyOf Tryz.f72) [1,1,1])) (evC (spec_Whole_Mul_E N) (codeAt (bodyOf Tryz.f72) [1,1,1])) (kEnd (spec_Whole_Mul_E N) [] Tryz.f72.results.toList [(.pair .bool (.pair (.list (.int .u32)) .unit))]))))))))
noncomputable def spec_Whole_Mul_e0 (N:Nat) (n:Nat) (v1:(Bool×((List Int)×Unit))) (v2:(Bool×((List Int)×Unit))) (v17:Int) (v18:(List Int)):Option (HR [(.pair .bool (.pair (.list (.int .u32)) .unit))]) :=
  loopN (advOf (spec_Whole_Mul_E N) (codeAt (bodyOf Tryz.f72) [1,1,0,1,0,0])) (evC (spec_Whole_Mul_E N) (codeAt (bodyOf Tryz.f72) [1,1,0,1,0,0])) n ⟨[(2,.ref 2 0),(3,.ref 3 0),(4,.ref 4 0),(5,.own (.int .u32) 19),(21,.pv (.list (.int .u32)) v1.2.1),(22,.pv (.int .i64) (v1.2.1.length:Int)),(23,.pv (.int .i64) v17)],[(2,.box [.pv .bool v1.1,.pv (.list (.int .u32)) v1.2.1]),(3,.box [.pv .bool v2.1,.pv (.list (.int .u32)) v2.2.1]),(4,.box [.pv .bool false,.nils]),(19,.arr 124 (.int .u32) v18)],[]⟩ (kBlock 0 (kSeq (advOf (spec_Whole_Mul_E N) (codeAt (bodyOf Tryz.f72) [1,1,1])) (evC (spec_Whole_Mul_E N) (codeAt (bodyOf Tryz.f72) [1,1,1])) (kEnd (spec_Whole_Mul_E N) [] Tryz.f72.results.toList [(.pair .bool (.pair (.list (.int .u32)) .unit))])))
theorem spec_Whole_Mul_t1 (N:Nat) (m0:Nat) (v1:(Bool×((List Int)×Unit))) (v2:(Bool×((List Int)×Unit))):∀ (n:Nat) (v17:Int) (v19:Int) (v24:Int) (v25:Int) (v26:(List Int)),spec_Whole_Mul_e1 N m0 v1 v2 n v17 v19 v24 v25 v26 = spec_Whole_Mul_l1 N (spec_Whole_Mul_e0 N m0 v1 v2) v1 v2 n v17 v19 v24 v25 v26
  | 0,_,_,_,_,_=>rfl
  | n + 1,v17,v19,v24,v25,v26=>by
    have h:spec_Whole_Mul_e1 N m0 v1 v2 n v17 v19 = spec_Whole_Mul_l1 N (spec_Whole_Mul_e0 N m0 v1 v2) v1 v2 n v17 v19:=by funext v24 v25 v26; exact spec_Whole_Mul_t1 N m0 v1 v2 n v17 v19 v24 v25 v26
    exact (show spec_Whole_Mul_e1 N m0 v1 v2 (n + 1) v17 v19 v24 v25 v26 = spec_Whole_Mul_g1 N v1 v2 v17 v19 (spec_Whole_Mul_e1 N m0 v1 v2 n v17 v19) (spec_Whole_Mul_e0 N m0 v1 v2) v24 v25 v26 from by kernel_rfl).trans (by rw [h]; rfl)
theorem spec_Whole_Mul_t0 (N:Nat):∀ (n:Nat) (v1:(Bool×((List Int)×Unit))) (v2:(Bool×((List Int)×Unit))) (v17:Int) (v18:(List Int)),spec_Whole_Mul_e0 N n v1 v2 v17 v18 = spec_Whole_Mul_l0 N n v1 v2 v17 v18
  | 0,_,_,_,_=>rfl
  | n + 1,v1,v2,v17,v18=>by
    have h1:(spec_Whole_Mul_e1 N n v1 v2 N) = (spec_Whole_Mul_l1 N (spec_Whole_Mul_e0 N n v1 v2) v1 v2 N):=by funext v17 v19 v24 v25 v26; exact spec_Whole_Mul_t1 N n v1 v2 N v17 v19 v24 v25 v26
    have h:spec_Whole_Mul_e0 N n v1 v2 = spec_Whole_Mul_l0 N n v1 v2:=by funext v17 v18; exact spec_Whole_Mul_t0 N n v1 v2 v17 v18
    exact (show spec_Whole_Mul_e0 N (n + 1) v1 v2 v17 v18 = spec_Whole_Mul_g0 N v1 v2 (spec_Whole_Mul_e1 N n v1 v2 N) (spec_Whole_Mul_e0 N n v1 v2) v17 v18 from by kernel_rfl).trans (by rw [h1,h]; rfl)
theorem spec_Whole_Mul_t (N:Nat) (v1:(Bool×((List Int)×Unit))) (v2:(Bool×((List Int)×Unit))):evF (spec_Whole_Mul_E N) [] Tryz.f72 [.k (.pair .bool (.pair (.list (.int .u32)) .unit)),.k (.pair .bool (.pair (.list (.int .u32)) .unit))] [(.pair .bool (.pair (.list (.int .u32)) .unit))] (v1,v2,()) = spec_Whole_Mul N v1 v2:=by
  have h0:(spec_Whole_Mul_e0 N N) = (spec_Whole_Mul_l0 N N):=by funext v1 v2 v17 v18; exact spec_Whole_Mul_t0 N N v1 v2 v17 v18
  exact (show evF (spec_Whole_Mul_E N) [] Tryz.f72 [.k (.pair .bool (.pair (.list (.int .u32)) .unit)),.k (.pair .bool (.pair (.list (.int .u32)) .unit))] [(.pair .bool (.pair (.list (.int .u32)) .unit))] (v1,v2,()) = spec_Whole_Mul_g N v1 v2 (spec_Whole_Mul_e0 N N) from by kernel_rfl).trans (by rw [h0]; rfl)
noncomputable def spec_Whole_Mul_con (N:Nat):Con:=⟨72,[.k (.pair .bool (.pair (.list (.int .u32)) .unit)),.k (.pair .bool (.pair (.list (.int .u32)) .unit))],[(.pair .bool (.pair (.list (.int .u32)) .unit))],fun x=>spec_Whole_Mul N x.1 x.2.1⟩
theorem spec_Whole_Mul_s (N:Nat):(spec_Whole_Mul_con N).Sound Tryz.prog [] :=
  Con.sound_of (c:=spec_Whole_Mul_con N) (E:=(spec_Whole_Mul_E N)) (idle:=[]) Tryz.func72 (by kernel_rfl) (by kernel_rfl) ⟨(allCons (spec_trim_s N) allNil),allNil,rfl⟩ allNil (fun x y h=>(spec_Whole_Mul_t N x.1 x.2.1).trans h)
/-- (pub-orthodrome/spec.Dyadic).Mul -/
noncomputable def spec_Dyadic_Mul_E (N:Nat):Env:=⟨Tryz.prog,N,[spec_Whole_Mul_con N],[(0,⟨[],[],[],[],[],[0,1],[],none⟩),(1,⟨[],[],[],[],[],[2,3,4],[2,3,4],none⟩)],kdL [],[],[],[],[61,89,92,95,99,105,108,112]⟩
def spec_Dyadic_Mul_g (N:Nat) (v1:((Bool×((List Int)×Unit))×(Int×Unit))) (v2:((Bool×((List Int)×Unit))×(Int×Unit))):Option (((Bool×((List Int)×Unit))×(Int×Unit))) :=
  ((spec_Whole_Mul N (v1.1.1,v1.1.2.1,()) (v2.1.1,v2.1.2.1,())).bind fun v3=>(some ((v3.1,v3.2.1,()),(IntKind.i64.wrap (v1.2.1 + v2.2.1)),())))
def spec_Dyadic_Mul (N:Nat) (v1:((Bool×((List Int)×Unit))×(Int×Unit))) (v2:((Bool×((List Int)×Unit))×(Int×Unit))):Option (((Bool×((List Int)×Unit))×(Int×Unit))) :=
  spec_Dyadic_Mul_g N v1 v2
set_option maxRecDepth 100000
theorem spec_Dyadic_Mul_t (N:Nat) (v1:((Bool×((List Int)×Unit))×(Int×Unit))) (v2:((Bool×((List Int)×Unit))×(Int×Unit))):evF (spec_Dyadic_Mul_E N) [] Tryz.f54 [.k KD,.k KD] [KD] (v1,v2,()) = spec_Dyadic_Mul N v1 v2:=by
  exact (show evF (spec_Dyadic_Mul_E N) [] Tryz.f54 [.k KD,.k KD] [KD] (v1,v2,()) = spec_Dyadic_Mul_g N v1 v2 from by kernel_rfl).trans (by rfl)
noncomputable def spec_Dyadic_Mul_con (N:Nat):Con:=⟨54,[.k KD,.k KD],[KD],fun x=>spec_Dyadic_Mul N x.1 x.2.1⟩
theorem spec_Dyadic_Mul_s (N:Nat):(spec_Dyadic_Mul_con N).Sound Tryz.prog [] :=
  Con.sound_of (c:=spec_Dyadic_Mul_con N) (E:=(spec_Dyadic_Mul_E N)) (idle:=[]) Tryz.func54 (by kernel_rfl) (by kernel_rfl) ⟨(allCons (spec_Whole_Mul_s N) allNil),allNil,rfl⟩ allNil (fun x y h=>(spec_Dyadic_Mul_t N x.1 x.2.1).trans h)
/-- (pub-orthodrome/spec.Whole).Minus -/
noncomputable def spec_Whole_Minus_E (N:Nat):Env:=⟨Tryz.prog,N,[],[(0,⟨[],[],[],[],[],[0],[],none⟩),(1,⟨[],[],[],[],[],[1,2],[1,2],none⟩)],kdL [],[],[],[],[61,89,92,95,99,105,108,112]⟩
def spec_Whole_Minus_g (N:Nat) (v1:(Bool×((List Int)×Unit))):Option ((Bool×((List Int)×Unit))) :=
  (bif (!v1.1) then (some ((decide (((v1.2.1.length:Int):Int) > 0)),v1.2.1,())) else (some (false,v1.2.1,())))
def spec_Whole_Minus (N:Nat) (v1:(Bool×((List Int)×Unit))):Option ((Bool×((List Int)×Unit))) :=
  spec_Whole_Minus_g N v1
set_option maxRecDepth 100000
theorem spec_Whole_Minus_t (N:Nat) (v1:(Bool×((List Int)×Unit))):evF (spec_Whole_Minus_E N) [] Tryz.f77 [.k (.pair .bool (.pair (.list (.int .u32)) .unit))] [(.pair .bool (.pair (.list (.int .u32)) .unit))] (v1,()) = spec_Whole_Minus N v1:=by
  exact (show evF (spec_Whole_Minus_E N) [] Tryz.f77 [.k (.pair .bool (.pair (.list (.int .u32)) .unit))] [(.pair .bool (.pair (.list (.int .u32)) .unit))] (v1,()) = spec_Whole_Minus_g N v1 from by kernel_rfl).trans (by rfl)
noncomputable def spec_Whole_Minus_con (N:Nat):Con:=⟨77,[.k (.pair .bool (.pair (.list (.int .u32)) .unit))],[(.pair .bool (.pair (.list (.int .u32)) .unit))],fun x=>spec_Whole_Minus N x.1⟩
theorem spec_Whole_Minus_s (N:Nat):(spec_Whole_Minus_con N).Sound Tryz.prog [] :=
  Con.sound_of (c:=spec_Whole_Minus_con N) (E:=(spec_Whole_Minus_E N)) (idle:=[]) Tryz.func77 (by kernel_rfl) (by kernel_rfl) ⟨allNil,allNil,rfl⟩ allNil (fun x y h=>(spec_Whole_Minus_t N x.1).trans h)
/-- (pub-orthodrome/spec.Dyadic).Minus -/
noncomputable def spec_Dyadic_Minus_E (N:Nat):Env:=⟨Tryz.prog,N,[spec_Whole_Minus_con N],[(0,⟨[],[],[],[],[],[0],[],none⟩),(1,⟨[],[],[],[],[],[1,2],[1,2],none⟩)],kdL [],[],[],[],[61,89,92,95,99,105,108,112]⟩
def spec_Dyadic_Minus_g (N:Nat) (v1:((Bool×((List Int)×Unit))×(Int×Unit))):Option (((Bool×((List Int)×Unit))×(Int×Unit))) :=
  ((spec_Whole_Minus N (v1.1.1,v1.1.2.1,())).bind fun v2=>(some ((v2.1,v2.2.1,()),v1.2.1,())))
def spec_Dyadic_Minus (N:Nat) (v1:((Bool×((List Int)×Unit))×(Int×Unit))):Option (((Bool×((List Int)×Unit))×(Int×Unit))) :=
  spec_Dyadic_Minus_g N v1
set_option maxRecDepth 100000
theorem spec_Dyadic_Minus_t (N:Nat) (v1:((Bool×((List Int)×Unit))×(Int×Unit))):evF (spec_Dyadic_Minus_E N) [] Tryz.f73 [.k KD] [KD] (v1,()) = spec_Dyadic_Minus N v1:=by
  exact (show evF (spec_Dyadic_Minus_E N) [] Tryz.f73 [.k KD] [KD] (v1,()) = spec_Dyadic_Minus_g N v1 from by kernel_rfl).trans (by rfl)
noncomputable def spec_Dyadic_Minus_con (N:Nat):Con:=⟨73,[.k KD],[KD],fun x=>spec_Dyadic_Minus N x.1⟩
theorem spec_Dyadic_Minus_s (N:Nat):(spec_Dyadic_Minus_con N).Sound Tryz.prog [] :=
  Con.sound_of (c:=spec_Dyadic_Minus_con N) (E:=(spec_Dyadic_Minus_E N)) (idle:=[]) Tryz.func73 (by kernel_rfl) (by kernel_rfl) ⟨(allCons (spec_Whole_Minus_s N) allNil),allNil,rfl⟩ allNil (fun x y h=>(spec_Dyadic_Minus_t N x.1).trans h)
/-- (pub-orthodrome/spec.Dyadic).Sub -/
noncomputable def spec_Dyadic_Sub_E (N:Nat):Env:=⟨Tryz.prog,N,[spec_Dyadic_Minus_con N,spec_Dyadic_Add_con N],[(0,⟨[],[],[],[],[],[0,1],[],none⟩),(1,⟨[],[],[],[],[],[2,3,4],[2,3,4],none⟩)],kdL [],[],[],[],[61,89,92,95,99,105,108,112]⟩
def spec_Dyadic_Sub_g (N:Nat) (v1:((Bool×((List Int)×Unit))×(Int×Unit))) (v2:((Bool×((List Int)×Unit))×(Int×Unit))):Option (((Bool×((List Int)×Unit))×(Int×Unit))) :=
  ((spec_Dyadic_Minus N ((v2.1.1,v2.1.2.1,()),v2.2.1,())).bind fun v3=>(spec_Dyadic_Add N ((v1.1.1,v1.1.2.1,()),v1.2.1,()) v3).bind fun v4=>(some ((v4.1.1,v4.1.2.1,()),v4.2.1,())))
def spec_Dyadic_Sub (N:Nat) (v1:((Bool×((List Int)×Unit))×(Int×Unit))) (v2:((Bool×((List Int)×Unit))×(Int×Unit))):Option (((Bool×((List Int)×Unit))×(Int×Unit))) :=
  spec_Dyadic_Sub_g N v1 v2
set_option maxRecDepth 100000
theorem spec_Dyadic_Sub_t (N:Nat) (v1:((Bool×((List Int)×Unit))×(Int×Unit))) (v2:((Bool×((List Int)×Unit))×(Int×Unit))):evF (spec_Dyadic_Sub_E N) [] Tryz.f55 [.k KD,.k KD] [KD] (v1,v2,()) = spec_Dyadic_Sub N v1 v2:=by
  exact (show evF (spec_Dyadic_Sub_E N) [] Tryz.f55 [.k KD,.k KD] [KD] (v1,v2,()) = spec_Dyadic_Sub_g N v1 v2 from by kernel_rfl).trans (by rfl)
noncomputable def spec_Dyadic_Sub_con (N:Nat):Con:=⟨55,[.k KD,.k KD],[KD],fun x=>spec_Dyadic_Sub N x.1 x.2.1⟩
theorem spec_Dyadic_Sub_s (N:Nat):(spec_Dyadic_Sub_con N).Sound Tryz.prog [] :=
  Con.sound_of (c:=spec_Dyadic_Sub_con N) (E:=(spec_Dyadic_Sub_E N)) (idle:=[]) Tryz.func55 (by kernel_rfl) (by kernel_rfl) ⟨(allCons (spec_Dyadic_Minus_s N) (allCons (spec_Dyadic_Add_s N) allNil)),allNil,rfl⟩ allNil (fun x y h=>(spec_Dyadic_Sub_t N x.1 x.2.1).trans h)
/-- (pub-orthodrome/spec.Dyadic).Abs -/
noncomputable def spec_Dyadic_Abs_E (N:Nat):Env:=⟨Tryz.prog,N,[spec_Dyadic_Sign_con N,spec_Dyadic_Minus_con N],[(0,⟨[],[],[],[],[],[0],[],none⟩),(1,⟨[],[],[],[],[],[1,2],[1,2],none⟩),(2,⟨[],[],[],[],[],[1,2,5],[1,2],none⟩),(3,⟨[],[],[],[],[],[1,2],[1,2],none⟩)],kdL [],[],[],[],[61,89,92,95,99,105,108,112]⟩
def spec_Dyadic_Abs_g (N:Nat) (v1:((Bool×((List Int)×Unit))×(Int×Unit))):Option (((Bool×((List Int)×Unit))×(Int×Unit))) :=
  ((spec_Dyadic_Sign N ((v1.1.1,v1.1.2.1,()),v1.2.1,())).bind fun v2=>(bif (decide ((v2:Int) < 0)) then ((spec_Dyadic_Minus N ((v1.1.1,v1.1.2.1,()),v1.2.1,())).bind fun v3=>(some ((v3.1.1,v3.1.2.1,()),v3.2.1,()))) else (some ((v1.1.1,v1.1.2.1,()),v1.2.1,()))))
def spec_Dyadic_Abs (N:Nat) (v1:((Bool×((List Int)×Unit))×(Int×Unit))):Option (((Bool×((List Int)×Unit))×(Int×Unit))) :=
  spec_Dyadic_Abs_g N v1
set_option maxRecDepth 100000
theorem spec_Dyadic_Abs_t (N:Nat) (v1:((Bool×((List Int)×Unit))×(Int×Unit))):evF (spec_Dyadic_Abs_E N) [] Tryz.f56 [.k KD] [KD] (v1,()) = spec_Dyadic_Abs N v1:=by
  exact (show evF (spec_Dyadic_Abs_E N) [] Tryz.f56 [.k KD] [KD] (v1,()) = spec_Dyadic_Abs_g N v1 from by kernel_rfl).trans (by rfl)
noncomputable def spec_Dyadic_Abs_con (N:Nat):Con:=⟨56,[.k KD],[KD],fun x=>spec_Dyadic_Abs N x.1⟩
theorem spec_Dyadic_Abs_s (N:Nat):(spec_Dyadic_Abs_con N).Sound Tryz.prog [] :=
  Con.sound_of (c:=spec_Dyadic_Abs_con N) (E:=(spec_Dyadic_Abs_E N)) (idle:=[]) Tryz.func56 (by kernel_rfl) (by kernel_rfl) ⟨(allCons (spec_Dyadic_Sign_s N) (allCons (spec_Dyadic_Minus_s N) allNil)),allNil,rfl⟩ allNil (fun x y h=>(spec_Dyadic_Abs_t N x.1).trans h)
/-- (pub-orthodrome/spec.Dyadic).Shift -/
noncomputable def spec_Dyadic_Shift_E (N:Nat):Env:=⟨Tryz.prog,N,[],[(0,⟨[],[],[],[],[],[0,1],[],none⟩),(1,⟨[],[],[],[],[],[1,2,4],[2,4],none⟩)],kdL [],[],[],[],[61,89,92,95,99,105,108,112]⟩
def spec_Dyadic_Shift_g (N:Nat) (v1:((Bool×((List Int)×Unit))×(Int×Unit))) (v2:Int):Option (((Bool×((List Int)×Unit))×(Int×Unit))) :=
  (some ((v1.1.1,v1.1.2.1,()),(IntKind.i64.wrap (v1.2.1 + v2)),()))
def spec_Dyadic_Shift (N:Nat) (v1:((Bool×((List Int)×Unit))×(Int×Unit))) (v2:Int):Option (((Bool×((List Int)×Unit))×(Int×Unit))) :=
  spec_Dyadic_Shift_g N v1 v2
set_option maxRecDepth 100000
theorem spec_Dyadic_Shift_t (N:Nat) (v1:((Bool×((List Int)×Unit))×(Int×Unit))) (v2:Int):evF (spec_Dyadic_Shift_E N) [] Tryz.f58 [.k KD,.k (.int .i64)] [KD] (v1,v2,()) = spec_Dyadic_Shift N v1 v2:=by
  exact (show evF (spec_Dyadic_Shift_E N) [] Tryz.f58 [.k KD,.k (.int .i64)] [KD] (v1,v2,()) = spec_Dyadic_Shift_g N v1 v2 from by kernel_rfl).trans (by rfl)
noncomputable def spec_Dyadic_Shift_con (N:Nat):Con:=⟨58,[.k KD,.k (.int .i64)],[KD],fun x=>spec_Dyadic_Shift N x.1 x.2.1⟩
theorem spec_Dyadic_Shift_s (N:Nat):(spec_Dyadic_Shift_con N).Sound Tryz.prog [] :=
  Con.sound_of (c:=spec_Dyadic_Shift_con N) (E:=(spec_Dyadic_Shift_E N)) (idle:=[]) Tryz.func58 (by kernel_rfl) (by kernel_rfl) ⟨allNil,allNil,rfl⟩ allNil (fun x y h=>(spec_Dyadic_Shift_t N x.1 x.2.1).trans h)
/-- (pub-orthodrome/spec.Dyadic).Cmp -/
noncomputable def spec_Dyadic_Cmp_E (N:Nat):Env:=⟨Tryz.prog,N,[spec_Dyadic_Sub_con N,spec_Dyadic_Sign_con N],[(0,⟨[],[],[],[],[],[0,1],[],none⟩),(1,⟨[],[],[],[],[],[2,3],[2,3],none⟩)],kdL [],[],[],[],[61,89,92,95,99,105,108,112]⟩
def spec_Dyadic_Cmp_g (N:Nat) (v1:((Bool×((List Int)×Unit))×(Int×Unit))) (v2:((Bool×((List Int)×Unit))×(Int×Unit))):Option (Int) :=
  ((spec_Dyadic_Sub N ((v1.1.1,v1.1.2.1,()),v1.2.1,()) ((v2.1.1,v2.1.2.1,()),v2.2.1,())).bind fun v3=>(spec_Dyadic_Sign N v3).bind fun v4=>(some v4))
def spec_Dyadic_Cmp (N:Nat) (v1:((Bool×((List Int)×Unit))×(Int×Unit))) (v2:((Bool×((List Int)×Unit))×(Int×Unit))):Option (Int) :=
  spec_Dyadic_Cmp_g N v1 v2
set_option maxRecDepth 100000
theorem spec_Dyadic_Cmp_t (N:Nat) (v1:((Bool×((List Int)×Unit))×(Int×Unit))) (v2:((Bool×((List Int)×Unit))×(Int×Unit))):evF (spec_Dyadic_Cmp_E N) [] Tryz.f57 [.k KD,.k KD] [(.int .i64)] (v1,v2,()) = spec_Dyadic_Cmp N v1 v2:=by
  exact (show evF (spec_Dyadic_Cmp_E N) [] Tryz.f57 [.k KD,.k KD] [(.int .i64)] (v1,v2,()) = spec_Dyadic_Cmp_g N v1 v2 from by kernel_rfl).trans (by rfl)
noncomputable def spec_Dyadic_Cmp_con (N:Nat):Con:=⟨57,[.k KD,.k KD],[(.int .i64)],fun x=>spec_Dyadic_Cmp N x.1 x.2.1⟩
theorem spec_Dyadic_Cmp_s (N:Nat):(spec_Dyadic_Cmp_con N).Sound Tryz.prog [] :=
  Con.sound_of (c:=spec_Dyadic_Cmp_con N) (E:=(spec_Dyadic_Cmp_E N)) (idle:=[]) Tryz.func57 (by kernel_rfl) (by kernel_rfl) ⟨(allCons (spec_Dyadic_Sub_s N) (allCons (spec_Dyadic_Sign_s N) allNil)),allNil,rfl⟩ allNil (fun x y h=>(spec_Dyadic_Cmp_t N x.1 x.2.1).trans h)
/-- pub-orthodrome/laws.nearRatio -/
noncomputable def laws_nearRatio_E (N:Nat):Env:=⟨Tryz.prog,N,[spec_Finite_con N,spec_DyadicOf_con N,spec_Dyadic_Mul_con N,spec_Dyadic_Sub_con N,spec_Dyadic_Abs_con N,spec_Dyadic_Shift_con N,spec_Dyadic_Cmp_con N],[(0,⟨[],[],[],[],[],[0,1,2],[],none⟩),(1,⟨[],[],[],[],[],[0,2,4],[4],none⟩)],kdL [],[],[],[],[61,89,92,95,99,105,108,112]⟩
def laws_nearRatio_g (N:Nat) (v1:Nat) (v2:(((Bool×((List Int)×Unit))×(Int×Unit))×(((Bool×((List Int)×Unit))×(Int×Unit))×Unit))) (v3:Int):Option (Bool) :=
  ((spec_Finite N v1).bind fun v4=>bif v4 then ((spec_DyadicOf N v1).bind fun v5=>(spec_Dyadic_Mul N v5 ((v2.2.1.1.1,v2.2.1.1.2.1,()),v2.2.1.2.1,())).bind fun v6=>(spec_Dyadic_Sub N v6 ((v2.1.1.1,v2.1.1.2.1,()),v2.1.2.1,())).bind fun v7=>(spec_Dyadic_Abs N v7).bind fun v8=>(spec_Dyadic_Shift N ((v2.2.1.1.1,v2.2.1.1.2.1,()),v2.2.1.2.1,()) v3).bind fun v9=>(spec_Dyadic_Cmp N v8 v9).bind fun v10=>(some (decide ((v10:Int) < 0)))) else (some false))
def laws_nearRatio (N:Nat) (v1:Nat) (v2:(((Bool×((List Int)×Unit))×(Int×Unit))×(((Bool×((List Int)×Unit))×(Int×Unit))×Unit))) (v3:Int):Option (Bool) :=
  laws_nearRatio_g N v1 v2 v3
set_option maxRecDepth 100000
theorem laws_nearRatio_t (N:Nat) (v1:Nat) (v2:(((Bool×((List Int)×Unit))×(Int×Unit))×(((Bool×((List Int)×Unit))×(Int×Unit))×Unit))) (v3:Int):evF (laws_nearRatio_E N) [] Tryz.f20 [.k .float,.k (.pair KD (.pair KD .unit)),.k (.int .i64)] [.bool] (v1,v2,v3,()) = laws_nearRatio N v1 v2 v3:=by
  exact (show evF (laws_nearRatio_E N) [] Tryz.f20 [.k .float,.k (.pair KD (.pair KD .unit)),.k (.int .i64)] [.bool] (v1,v2,v3,()) = laws_nearRatio_g N v1 v2 v3 from by kernel_rfl).trans (by rfl)
noncomputable def laws_nearRatio_con (N:Nat):Con:=⟨20,[.k .float,.k (.pair KD (.pair KD .unit)),.k (.int .i64)],[.bool],fun x=>laws_nearRatio N x.1 x.2.1 x.2.2.1⟩
theorem laws_nearRatio_s (N:Nat):(laws_nearRatio_con N).Sound Tryz.prog [] :=
  Con.sound_of (c:=laws_nearRatio_con N) (E:=(laws_nearRatio_E N)) (idle:=[]) Tryz.func20 (by kernel_rfl) (by kernel_rfl) ⟨(allCons (spec_Finite_s N) (allCons (spec_DyadicOf_s N) (allCons (spec_Dyadic_Mul_s N) (allCons (spec_Dyadic_Sub_s N) (allCons (spec_Dyadic_Abs_s N) (allCons (spec_Dyadic_Shift_s N) (allCons (spec_Dyadic_Cmp_s N) allNil))))))),allNil,rfl⟩ allNil (fun x y h=>(laws_nearRatio_t N x.1 x.2.1 x.2.2.1).trans h)
/-- pub-orthodrome/laws.centred -/
noncomputable def laws_centred_E (N:Nat):Env:=⟨Tryz.prog,N,[laws_nearRatio_con N],[(0,⟨[],[],[],[],[],[0,1,2,3],[],none⟩),(1,⟨[],[],[],[],[],[0,3,5,6],[5,6],none⟩),(2,⟨[],[],[],[],[],[0,34],[],some N⟩),(3,⟨[],[],[],[],[],[0],[],none⟩),(4,⟨[],[],[],[],[],[36,37,38],[],none⟩),(5,⟨[],[],[],[],[],[36,37,38],[],none⟩),(6,⟨[],[],[],[],[],[10,36,37,38],[],none⟩),(7,⟨[],[],[],[],[],[36,37,38,43],[],none⟩),(8,⟨[],[],[],[],[],[36,37,38],[],none⟩),(9,⟨[],[],[],[],[],[],[],none⟩)],kdL [],[],[],[],[61,89,92,95,99,105,108,112]⟩
def laws_centred_g0 (N:Nat) (v1:(List Nat)):Option (Bool) :=
  (some false)
def laws_centred_j0 (N:Nat) (v1:(List Nat)):Option (Bool) :=
  gate N (laws_centred_g0 N v1)
def laws_centred_g1 (N:Nat) (v1:(List Nat)) (v9:(Nat×Nat)) (r1:Int→Option (Bool)) (v11:Int):Option (Bool) :=
  (bif (decide ((v11:Int) < (((v1.drop v9.1).take (v9.2 - v9.1)).length:Int))) then ((nth ((v1.drop v9.1).take (v9.2 - v9.1)) v11).bind fun v12=>(bif (fne v12 0) then (some false) else ((r1 (IntKind.i64.wrap (v11 + 1)))))) else (some true))
def laws_centred_l1 (N:Nat):Nat→(List Nat)→(Nat×Nat)→Int→Option (Bool)
  | 0,_,_,_=>none
  | n + 1,v1,v9,v11=>laws_centred_g1 N v1 v9 (laws_centred_l1 N n v1 v9) v11
def laws_centred_g (N:Nat) (v1:(List Nat)) (v2:(((Bool×((List Int)×Unit))×(Int×Unit))×(((Bool×((List Int)×Unit))×(Int×Unit))×Unit))) (v3:(((Bool×((List Int)×Unit))×(Int×Unit))×(((Bool×((List Int)×Unit))×(Int×Unit))×Unit))) (v4:Int) (c0:(List Nat)→Option (Bool)) (c1:(List Nat)→(Nat×Nat)→Int→Option (Bool)):Option (Bool) :=
  (bif ((v1.length:Int) != v4) then (c0 v1) else (bif (decide ((v4:Int) < 2)) then (c0 v1) else ((nth v1 0).bind fun v5=>(laws_nearRatio N v5 (((v2.1.1.1,v2.1.1.2.1,()),v2.1.2.1,()),((v2.2.1.1.1,v2.2.1.1.2.1,()),v2.2.1.2.1,()),()) (-20)).bind fun v6=>bif (!v6) then (c0 v1) else ((nth v1 1).bind fun v7=>(laws_nearRatio N v7 (((v3.1.1.1,v3.1.1.2.1,()),v3.1.2.1,()),((v3.2.1.1.1,v3.2.1.1.2.1,()),v3.2.1.2.1,()),()) (-20)).bind fun v8=>(gate N (bif (!v8) then (some false) else ((chk2 2 (v1.length:Int) v1.length).bind fun v9=>((c1 v1 v9 0)))))))))
def laws_centred (N:Nat) (v1:(List Nat)) (v2:(((Bool×((List Int)×Unit))×(Int×Unit))×(((Bool×((List Int)×Unit))×(Int×Unit))×Unit))) (v3:(((Bool×((List Int)×Unit))×(Int×Unit))×(((Bool×((List Int)×Unit))×(Int×Unit))×Unit))) (v4:Int):Option (Bool) :=
  laws_centred_g N v1 v2 v3 v4 (laws_centred_j0 N) (laws_centred_l1 N N)
set_option maxRecDepth 100000
noncomputable def laws_centred_e0 (N:Nat) (v1:(List Nat)):Option (HR [.bool]) :=
  gate N (evC (laws_centred_E N) (codeAt (bodyOf Tryz.f7) [1,0,1]) ⟨[(0,.pv (.list .float) v1),(34,.pv .bool true)],[],[]⟩ (kSeq (advOf (laws_centred_E N) (codeAt (bodyOf Tryz.f7) [1,1])) (evC (laws_centred_E N) (codeAt (bodyOf Tryz.f7) [1,1])) (kEnd (laws_centred_E N) [] Tryz.f7.results.toList [.bool])))
noncomputable def laws_centred_e1 (N:Nat) (n:Nat) (v1:(List Nat)) (v9:(Nat×Nat)) (v11:Int):Option (HR [.bool]) :=
  loopN (advOf (laws_centred_E N) (codeAt (bodyOf Tryz.f7) [1,1,0,1,0,0])) (evC (laws_centred_E N) (codeAt (bodyOf Tryz.f7) [1,1,0,1,0,0])) n ⟨[(36,.pv (.list .float) ((v1.drop v9.1).take (v9.2 - v9.1))),(37,.pv (.int .i64) (((v1.drop v9.1).take (v9.2 - v9.1)).length:Int)),(38,.pv (.int .i64) v11)],[],[]⟩ (kBlock 0 (kSeq (advOf (laws_centred_E N) (codeAt (bodyOf Tryz.f7) [1,1,1])) (evC (laws_centred_E N) (codeAt (bodyOf Tryz.f7) [1,1,1])) (kEnd (laws_centred_E N) [] Tryz.f7.results.toList [.bool])))
theorem laws_centred_t0 (N:Nat) (v1:(List Nat)):laws_centred_e0 N v1 = laws_centred_j0 N v1:=by
  exact (congrArg (gate N) (show evC (laws_centred_E N) (codeAt (bodyOf Tryz.f7) [1,0,1]) ⟨[(0,.pv (.list .float) v1),(34,.pv .bool true)],[],[]⟩ (kSeq (advOf (laws_centred_E N) (codeAt (bodyOf Tryz.f7) [1,1])) (evC (laws_centred_E N) (codeAt (bodyOf Tryz.f7) [1,1])) (kEnd (laws_centred_E N) [] Tryz.f7.results.toList [.bool])) = laws_centred_g0 N v1 from by kernel_rfl)).trans (by rfl)
theorem laws_centred_t1 (N:Nat):∀ (n:Nat) (v1:(List Nat)) (v9:(Nat×Nat)) (v11:Int),laws_centred_e1 N n v1 v9 v11 = laws_centred_l1 N n v1 v9 v11
  | 0,_,_,_=>rfl
  | n + 1,v1,v9,v11=>by
    have h:laws_centred_e1 N n v1 v9 = laws_centred_l1 N n v1 v9:=by funext v11; exact laws_centred_t1 N n v1 v9 v11
    exact (show laws_centred_e1 N (n + 1) v1 v9 v11 = laws_centred_g1 N v1 v9 (laws_centred_e1 N n v1 v9) v11 from by kernel_rfl).trans (by rw [h]; rfl)
theorem laws_centred_t (N:Nat) (v1:(List Nat)) (v2:(((Bool×((List Int)×Unit))×(Int×Unit))×(((Bool×((List Int)×Unit))×(Int×Unit))×Unit))) (v3:(((Bool×((List Int)×Unit))×(Int×Unit))×(((Bool×((List Int)×Unit))×(Int×Unit))×Unit))) (v4:Int):evF (laws_centred_E N) [] Tryz.f7 [.k (.list .float),.k (.pair KD (.pair KD .unit)),.k (.pair KD (.pair KD .unit)),.k (.int .i64)] [.bool] (v1,v2,v3,v4,()) = laws_centred N v1 v2 v3 v4:=by
  have h0:(laws_centred_e0 N) = (laws_centred_j0 N):=by funext v1; exact laws_centred_t0 N v1
  have h1:(laws_centred_e1 N N) = (laws_centred_l1 N N):=by funext v1 v9 v11; exact laws_centred_t1 N N v1 v9 v11
  exact (show evF (laws_centred_E N) [] Tryz.f7 [.k (.list .float),.k (.pair KD (.pair KD .unit)),.k (.pair KD (.pair KD .unit)),.k (.int .i64)] [.bool] (v1,v2,v3,v4,()) = laws_centred_g N v1 v2 v3 v4 (laws_centred_e0 N) (laws_centred_e1 N N) from by kernel_rfl).trans (by rw [h0,h1]; rfl)
noncomputable def laws_centred_con (N:Nat):Con:=⟨7,[.k (.list .float),.k (.pair KD (.pair KD .unit)),.k (.pair KD (.pair KD .unit)),.k (.int .i64)],[.bool],fun x=>laws_centred N x.1 x.2.1 x.2.2.1 x.2.2.2.1⟩
theorem laws_centred_s (N:Nat):(laws_centred_con N).Sound Tryz.prog [] :=
  Con.sound_of (c:=laws_centred_con N) (E:=(laws_centred_E N)) (idle:=[]) Tryz.func7 (by kernel_rfl) (by kernel_rfl) ⟨(allCons (laws_nearRatio_s N) allNil),allNil,rfl⟩ allNil (fun x y h=>(laws_centred_t N x.1 x.2.1 x.2.2.1 x.2.2.2.1).trans h)
/-- pub-orthodrome/spec.Stride -/
noncomputable def spec_Stride_E (N:Nat):Env:=⟨Tryz.prog,N,[],[(0,⟨[],[],[],[],[],[0],[],none⟩),(1,⟨[],[],[],[],[],[0],[],none⟩),(2,⟨[],[],[],[],[],[0,3],[],none⟩),(4,⟨[],[],[],[],[],[0,6],[],none⟩),(6,⟨[],[],[],[],[],[0,9],[],none⟩),(7,⟨[],[],[],[],[],[0],[],none⟩)],kdL [],[],[],[],[61,89,92,95,99,105,108,112]⟩
def spec_Stride_g (N:Nat) (v1:Int):Option (Int) :=
  (bif (decide ((v1:Int) < 1)) then (some 0) else (bif (v1 == 1) then (some 2) else (bif (v1 == 2) then (some 3) else (bif (v1 == 3) then (some 3) else (some v1)))))
def spec_Stride (N:Nat) (v1:Int):Option (Int) :=
  spec_Stride_g N v1
set_option maxRecDepth 100000
theorem spec_Stride_t (N:Nat) (v1:Int):evF (spec_Stride_E N) [] Tryz.f8 [.k (.int .i64)] [(.int .i64)] (v1,()) = spec_Stride N v1:=by
  exact (show evF (spec_Stride_E N) [] Tryz.f8 [.k (.int .i64)] [(.int .i64)] (v1,()) = spec_Stride_g N v1 from by kernel_rfl).trans (by rfl)
noncomputable def spec_Stride_con (N:Nat):Con:=⟨8,[.k (.int .i64)],[(.int .i64)],fun x=>spec_Stride N x.1⟩
theorem spec_Stride_s (N:Nat):(spec_Stride_con N).Sound Tryz.prog [] :=
  Con.sound_of (c:=spec_Stride_con N) (E:=(spec_Stride_E N)) (idle:=[]) Tryz.func8 (by kernel_rfl) (by kernel_rfl) ⟨allNil,allNil,rfl⟩ allNil (fun x y h=>(spec_Stride_t N x.1).trans h)
/-- pub-orthodrome/spec.Cover -/
noncomputable def spec_Cover_E (N:Nat):Env:=⟨Tryz.prog,N,[],[(0,⟨[],[],[],[],[],[0,1],[],none⟩),(1,⟨[],[],[],[],[],[0,1],[],none⟩),(2,⟨[],[],[],[],[],[0,1,18],[],some N⟩),(3,⟨[],[],[],[],[],[0,1],[],some N⟩)],kdL [],[],[],[],[61,89,92,95,99,105,108,112]⟩
def spec_Cover_g2 (N:Nat) (v1:Int) (v2:Int):Option (Int) :=
  (some (imm true v1 v2))
def spec_Cover_j2 (N:Nat) (v1:Int) (v2:Int):Option (Int) :=
  gate N (spec_Cover_g2 N v1 v2)
def spec_Cover_g0 (N:Nat) (v1:Int) (v2:Int) (c2:Int→Int→Option (Int)):Option (Int) :=
  bif (v2 == 2) then (some 4) else (c2 v1 v2)
def spec_Cover_j0 (N:Nat) (v1:Int) (v2:Int):Option (Int) :=
  gate N (spec_Cover_g0 N v1 v2 (spec_Cover_j2 N))
def spec_Cover_g1 (N:Nat) (v1:Int) (v2:Int) (c2:Int→Int→Option (Int)):Option (Int) :=
  (c2 v1 v2)
def spec_Cover_j1 (N:Nat) (v1:Int) (v2:Int):Option (Int) :=
  gate N (spec_Cover_g1 N v1 v2 (spec_Cover_j2 N))
def spec_Cover_g (N:Nat) (v1:Int) (v2:Int) (c0:Int→Int→Option (Int)) (c1:Int→Int→Option (Int)):Option (Int) :=
  (bif (v1 == 2) then (bif (v2 == 3) then (gate N (some 4)) else (bif (v1 == 3) then (c0 v1 v2) else (c1 v1 v2))) else (bif (v1 == 3) then (c0 v1 v2) else (c1 v1 v2)))
def spec_Cover (N:Nat) (v1:Int) (v2:Int):Option (Int) :=
  spec_Cover_g N v1 v2 (spec_Cover_j0 N) (spec_Cover_j1 N)
set_option maxRecDepth 100000
noncomputable def spec_Cover_e2 (N:Nat) (v1:Int) (v2:Int):Option (HR [(.int .i64)]) :=
  gate N (evC (spec_Cover_E N) (codeAt (bodyOf Tryz.f59) [1,1]) ⟨[(0,.pv (.int .i64) v1),(1,.pv (.int .i64) v2)],[],[]⟩ (kEnd (spec_Cover_E N) [] Tryz.f59.results.toList [(.int .i64)]))
noncomputable def spec_Cover_e0 (N:Nat) (v1:Int) (v2:Int):Option (HR [(.int .i64)]) :=
  gate N (evC (spec_Cover_E N) (codeAt (bodyOf Tryz.f59) [1,0,1]) ⟨[(0,.pv (.int .i64) v1),(1,.pv (.int .i64) v2),(18,.pv .bool (v2 == 2))],[],[]⟩ (kSeq (advOf (spec_Cover_E N) (codeAt (bodyOf Tryz.f59) [1,1])) (evC (spec_Cover_E N) (codeAt (bodyOf Tryz.f59) [1,1])) (kEnd (spec_Cover_E N) [] Tryz.f59.results.toList [(.int .i64)])))
noncomputable def spec_Cover_e1 (N:Nat) (v1:Int) (v2:Int):Option (HR [(.int .i64)]) :=
  gate N (evC (spec_Cover_E N) (codeAt (bodyOf Tryz.f59) [1,0,1]) ⟨[(0,.pv (.int .i64) v1),(1,.pv (.int .i64) v2),(18,.pv .bool false)],[],[]⟩ (kSeq (advOf (spec_Cover_E N) (codeAt (bodyOf Tryz.f59) [1,1])) (evC (spec_Cover_E N) (codeAt (bodyOf Tryz.f59) [1,1])) (kEnd (spec_Cover_E N) [] Tryz.f59.results.toList [(.int .i64)])))
theorem spec_Cover_t2 (N:Nat) (v1:Int) (v2:Int):spec_Cover_e2 N v1 v2 = spec_Cover_j2 N v1 v2:=by
  exact (congrArg (gate N) (show evC (spec_Cover_E N) (codeAt (bodyOf Tryz.f59) [1,1]) ⟨[(0,.pv (.int .i64) v1),(1,.pv (.int .i64) v2)],[],[]⟩ (kEnd (spec_Cover_E N) [] Tryz.f59.results.toList [(.int .i64)]) = spec_Cover_g2 N v1 v2 from by kernel_rfl)).trans (by rfl)
theorem spec_Cover_t0 (N:Nat) (v1:Int) (v2:Int):spec_Cover_e0 N v1 v2 = spec_Cover_j0 N v1 v2:=by
  have h2:(spec_Cover_e2 N) = (spec_Cover_j2 N):=by funext v1 v2; exact spec_Cover_t2 N v1 v2
  exact (congrArg (gate N) (show evC (spec_Cover_E N) (codeAt (bodyOf Tryz.f59) [1,0,1]) ⟨[(0,.pv (.int .i64) v1),(1,.pv (.int .i64) v2),(18,.pv .bool (v2 == 2))],[],[]⟩ (kSeq (advOf (spec_Cover_E N) (codeAt (bodyOf Tryz.f59) [1,1])) (evC (spec_Cover_E N) (codeAt (bodyOf Tryz.f59) [1,1])) (kEnd (spec_Cover_E N) [] Tryz.f59.results.toList [(.int .i64)])) = spec_Cover_g0 N v1 v2 (spec_Cover_e2 N) from by kernel_rfl)).trans (by rw [h2]; rfl)
theorem spec_Cover_t1 (N:Nat) (v1:Int) (v2:Int):spec_Cover_e1 N v1 v2 = spec_Cover_j1 N v1 v2:=by
  have h2:(spec_Cover_e2 N) = (spec_Cover_j2 N):=by funext v1 v2; exact spec_Cover_t2 N v1 v2
  exact (congrArg (gate N) (show evC (spec_Cover_E N) (codeAt (bodyOf Tryz.f59) [1,0,1]) ⟨[(0,.pv (.int .i64) v1),(1,.pv (.int .i64) v2),(18,.pv .bool false)],[],[]⟩ (kSeq (advOf (spec_Cover_E N) (codeAt (bodyOf Tryz.f59) [1,1])) (evC (spec_Cover_E N) (codeAt (bodyOf Tryz.f59) [1,1])) (kEnd (spec_Cover_E N) [] Tryz.f59.results.toList [(.int .i64)])) = spec_Cover_g1 N v1 v2 (spec_Cover_e2 N) from by kernel_rfl)).trans (by rw [h2]; rfl)
theorem spec_Cover_t (N:Nat) (v1:Int) (v2:Int):evF (spec_Cover_E N) [] Tryz.f59 [.k (.int .i64),.k (.int .i64)] [(.int .i64)] (v1,v2,()) = spec_Cover N v1 v2:=by
  have h0:(spec_Cover_e0 N) = (spec_Cover_j0 N):=by funext v1 v2; exact spec_Cover_t0 N v1 v2
  have h1:(spec_Cover_e1 N) = (spec_Cover_j1 N):=by funext v1 v2; exact spec_Cover_t1 N v1 v2
  exact (show evF (spec_Cover_E N) [] Tryz.f59 [.k (.int .i64),.k (.int .i64)] [(.int .i64)] (v1,v2,()) = spec_Cover_g N v1 v2 (spec_Cover_e0 N) (spec_Cover_e1 N) from by kernel_rfl).trans (by rw [h0,h1]; rfl)
noncomputable def spec_Cover_con (N:Nat):Con:=⟨59,[.k (.int .i64),.k (.int .i64)],[(.int .i64)],fun x=>spec_Cover N x.1 x.2.1⟩
theorem spec_Cover_s (N:Nat):(spec_Cover_con N).Sound Tryz.prog [] :=
  Con.sound_of (c:=spec_Cover_con N) (E:=(spec_Cover_E N)) (idle:=[]) Tryz.func59 (by kernel_rfl) (by kernel_rfl) ⟨allNil,allNil,rfl⟩ allNil (fun x y h=>(spec_Cover_t N x.1 x.2.1).trans h)
/-- pub-orthodrome/spec.LayoutOf -/
def spec_LayoutOf_g0 (N:Nat) (self:Geo→Option (Int)) (v1:Geo) (r0:Int→Int→Option (Int)) (v5:Int) (v6:Int):Option (Int) :=
  (bif (decide ((v6:Int) < (v1.kids.length:Int))) then ((nth v1.kids v6).bind fun v7=>((self (Geo.mk v7.kind v7.layout v7.srid v7.flat v7.ends v7.endss v7.kids)).bind fun v8=>(spec_Cover N v5 v8).bind fun v9=>((r0 v9 (IntKind.i64.wrap (v6 + 1)))))) else (some v5))
def spec_LayoutOf_l0 (N:Nat) (self:Geo→Option (Int)):Nat→Geo→Int→Int→Option (Int)
  | 0,_,_,_=>none
  | n + 1,v1,v5,v6=>spec_LayoutOf_g0 N self v1 (spec_LayoutOf_l0 N self n v1) v5 v6
def spec_LayoutOf_g (N:Nat) (self:Geo→Option (Int)) (v1:Geo) (c0:Geo→Int→Int→Option (Int)):Option (Int) :=
  (bif (v1.kind != 7) then (some v1.layout) else (bif (v1.layout != 0) then (some v1.layout) else ((c0 v1 v1.layout 0))))
def spec_LayoutOf (N:Nat):Nat→Geo→Option (Int)
  | 0,_=>none
  | d + 1,v1=>spec_LayoutOf_g N (spec_LayoutOf N d) v1 (spec_LayoutOf_l0 N (spec_LayoutOf N d) N)
noncomputable def spec_LayoutOf_con' (N:Nat) (d:Nat):Con:=⟨21,[.k .geo],[(.int .i64)],fun x=>spec_LayoutOf N d x.1⟩
noncomputable def spec_LayoutOf_E (N:Nat) (d:Nat):Env:=⟨Tryz.prog,N,[spec_LayoutOf_con' N d,spec_Cover_con N],[(0,⟨[],[],[],[],[],[0],[],none⟩),(1,⟨[],[],[],[],[],[1],[1],none⟩),(2,⟨[],[],[],[],[],[1,3],[1],none⟩),(3,⟨[],[],[],[],[],[1,3,14],[1],none⟩),(4,⟨[],[],[],[],[],[1,3],[1],none⟩),(5,⟨[],[],[],[],[],[3,17,18,19],[],none⟩),(6,⟨[],[],[],[],[],[3,17,18,19],[],none⟩),(7,⟨[],[],[],[],[],[3,5,17,18,19],[5],none⟩),(8,⟨[],[],[],[],[],[3,17,18,19],[],none⟩),(9,⟨[],[],[],[],[],[3],[],none⟩)],kdL [],[],[],[],[61,89,92,95,99,105,108,112]⟩
set_option maxRecDepth 100000
noncomputable def spec_LayoutOf_e0 (N:Nat) (d:Nat) (n:Nat) (v1:Geo) (v5:Int) (v6:Int):Option (HR [(.int .i64)]) :=
  loopN (advOf (spec_LayoutOf_E N d) (codeAt (bodyOf Tryz.f21) [1,1,1,0,1,0,0])) (evC (spec_LayoutOf_E N d) (codeAt (bodyOf Tryz.f21) [1,1,1,0,1,0,0])) n ⟨[(3,.pv (.int .i64) v5),(17,.pv (.list .geo) v1.kids),(18,.pv (.int .i64) (v1.kids.length:Int)),(19,.pv (.int .i64) v6)],[],[]⟩ (kBlock 0 (kSeq (advOf (spec_LayoutOf_E N d) (codeAt (bodyOf Tryz.f21) [1,1,1,1])) (evC (spec_LayoutOf_E N d) (codeAt (bodyOf Tryz.f21) [1,1,1,1])) (kEnd (spec_LayoutOf_E N d) [] Tryz.f21.results.toList [(.int .i64)])))
theorem spec_LayoutOf_t0 (N:Nat) (d:Nat):∀ (n:Nat) (v1:Geo) (v5:Int) (v6:Int),spec_LayoutOf_e0 N d n v1 v5 v6 = spec_LayoutOf_l0 N (spec_LayoutOf N d) n v1 v5 v6
  | 0,_,_,_=>rfl
  | n + 1,v1,v5,v6=>by
    have h:spec_LayoutOf_e0 N d n v1 = spec_LayoutOf_l0 N (spec_LayoutOf N d) n v1:=by funext v5 v6; exact spec_LayoutOf_t0 N d n v1 v5 v6
    exact (show spec_LayoutOf_e0 N d (n + 1) v1 v5 v6 = spec_LayoutOf_g0 N (spec_LayoutOf N d) v1 (spec_LayoutOf_e0 N d n v1) v5 v6 from by kernel_rfl).trans (by rw [h]; rfl)
theorem spec_LayoutOf_t (N:Nat) (d:Nat) (v1:Geo):evF (spec_LayoutOf_E N d) [] Tryz.f21 [.k .geo] [(.int .i64)] (v1,()) = spec_LayoutOf N (d + 1) v1:=by
  have h0:(spec_LayoutOf_e0 N d N) = (spec_LayoutOf_l0 N (spec_LayoutOf N d) N):=by funext v1 v5 v6; exact spec_LayoutOf_t0 N d N v1 v5 v6
  exact (show evF (spec_LayoutOf_E N d) [] Tryz.f21 [.k .geo] [(.int .i64)] (v1,()) = spec_LayoutOf_g N (spec_LayoutOf N d) v1 (spec_LayoutOf_e0 N d N) from by kernel_rfl).trans (by rw [h0]; rfl)
theorem spec_LayoutOf_s' (N:Nat):∀ d,(spec_LayoutOf_con' N d).Sound Tryz.prog []
  | 0=>fun _ _ _ _ _ _ _ _ h=>by cases h
  | d + 1=>Con.sound_of (c:=spec_LayoutOf_con' N (d + 1)) (E:=(spec_LayoutOf_E N d)) (idle:=[]) Tryz.func21 (by kernel_rfl) (by kernel_rfl) ⟨(allCons (spec_LayoutOf_s' N d) (allCons (spec_Cover_s N) allNil)),allNil,rfl⟩ allNil (fun x y h=>(spec_LayoutOf_t N d x.1).trans h)
noncomputable def spec_LayoutOf_con (N:Nat):Con:=spec_LayoutOf_con' N N
theorem spec_LayoutOf_s (N:Nat):(spec_LayoutOf_con N).Sound Tryz.prog []:=spec_LayoutOf_s' N N
/-- pub-orthodrome/spec.goodEnds -/
noncomputable def spec_goodEnds_E (N:Nat):Env:=⟨Tryz.prog,N,[],[(0,⟨[],[],[],[],[],[0,1,2,3],[],none⟩),(1,⟨[],[],[],[],[],[0,1,2,3],[],none⟩),(2,⟨[],[],[],[],[],[1,2,3,12,13,14],[],none⟩),(3,⟨[],[],[],[],[],[1,2,3,12,13,14],[],none⟩),(4,⟨[],[],[],[],[],[1,2,3,11,12,13,14],[],none⟩),(5,⟨[],[],[],[],[],[1,2,3,11,12,13,14,38],[],some N⟩),(6,⟨[],[],[],[],[],[2,3,11,12,13,14],[],some N⟩),(7,⟨[],[],[],[],[],[1,2,3,12,13,14],[],none⟩),(8,⟨[],[],[],[],[],[1],[],none⟩)],kdL [],[],[],[],[61,89,92,95,99,105,108,112]⟩
def spec_goodEnds_g1 (N:Nat) (v3:Int) (v4:Bool) (v1:(List Int)) (v6:Int) (v8:Int) (v7:Int) (r0:Int→Int→Option (Int×Bool)):Option (Int×Bool) :=
  (some (v6,false))
def spec_goodEnds_j1 (N:Nat) (r0:Int→Int→Option (Int×Bool)) (v3:Int) (v4:Bool) (v1:(List Int)) (v6:Int) (v8:Int) (v7:Int):Option (Int×Bool) :=
  gate N (spec_goodEnds_g1 N v3 v4 v1 v6 v8 v7 r0)
def spec_goodEnds_g2 (N:Nat) (v3:Int) (v4:Bool) (v1:(List Int)) (v8:Int) (v7:Int) (r0:Int→Int→Option (Int×Bool)):Option (Int×Bool) :=
  ((r0 v8 (IntKind.i64.wrap (v7 + 1))))
def spec_goodEnds_j2 (N:Nat) (r0:Int→Int→Option (Int×Bool)) (v3:Int) (v4:Bool) (v1:(List Int)) (v8:Int) (v7:Int):Option (Int×Bool) :=
  gate N (spec_goodEnds_g2 N v3 v4 v1 v8 v7 r0)
def spec_goodEnds_g0 (N:Nat) (v3:Int) (v4:Bool) (v1:(List Int)) (c1:Int→Int→Int→Option (Int×Bool)) (c2:Int→Int→Option (Int×Bool)) (r0:Int→Int→Option (Int×Bool)) (v6:Int) (v7:Int):Option (Int×Bool) :=
  (bif (decide ((v7:Int) < (v1.length:Int))) then ((nth v1 v7).bind fun v8=>(bif (decide ((v8:Int) < v6)) then (c1 v6 v8 v7) else (if v3 = 0 then none else bif ((Int.tmod (IntKind.i64.wrap (v8 - v6)) v3) != 0) then (c1 v6 v8 v7) else (bif v4 then (gate N (bif (decide (((IntKind.i64.wrap (v8 - v6)):Int) > v3)) then (some (v6,false)) else (c2 v8 v7))) else (gate N (c2 v8 v7)))))) else (some (v6,true)))
def spec_goodEnds_l0 (N:Nat):Nat→Int→Bool→(List Int)→Int→Int→Option (Int×Bool)
  | 0,_,_,_,_,_=>none
  | n + 1,v3,v4,v1,v6,v7=>spec_goodEnds_g0 N v3 v4 v1 (spec_goodEnds_j1 N (spec_goodEnds_l0 N n v3 v4 v1) v3 v4 v1) (spec_goodEnds_j2 N (spec_goodEnds_l0 N n v3 v4 v1) v3 v4 v1) (spec_goodEnds_l0 N n v3 v4 v1) v6 v7
def spec_goodEnds_g (N:Nat) (v1:(List Int)) (v2:Int) (v3:Int) (v4:Bool) (c0:Int→Bool→(List Int)→Int→Int→Option (Int×Bool)):Option (Int×Bool) :=
  ((c0 v3 v4 v1 v2 0))
def spec_goodEnds (N:Nat) (v1:(List Int)) (v2:Int) (v3:Int) (v4:Bool):Option (Int×Bool) :=
  spec_goodEnds_g N v1 v2 v3 v4 (spec_goodEnds_l0 N N)
set_option maxRecDepth 100000
noncomputable def spec_goodEnds_e1 (N:Nat) (m0:Nat) (v3:Int) (v4:Bool) (v1:(List Int)) (v6:Int) (v8:Int) (v7:Int):Option (HR [(.int .i64),.bool]) :=
  gate N (evC (spec_goodEnds_E N) (codeAt (bodyOf Tryz.f22) [1,0,1,0,0,1,1,0,0,1,0,1]) ⟨[(1,.pv (.int .i64) v6),(2,.pv (.int .i64) v3),(3,.pv .bool v4),(11,.pv (.int .i64) v8),(12,.pv (.list (.int .i64)) v1),(13,.pv (.int .i64) (v1.length:Int)),(14,.pv (.int .i64) v7),(38,.pv .bool true)],[],[]⟩ (kSeq (advOf (spec_goodEnds_E N) (codeAt (bodyOf Tryz.f22) [1,0,1,0,0,1,1,0,0,1,1])) (evC (spec_goodEnds_E N) (codeAt (bodyOf Tryz.f22) [1,0,1,0,0,1,1,0,0,1,1])) (kBlock 1 (kSeq (advOf (spec_goodEnds_E N) (codeAt (bodyOf Tryz.f22) [1,0,1,0,0,1,1,1])) (evC (spec_goodEnds_E N) (codeAt (bodyOf Tryz.f22) [1,0,1,0,0,1,1,1])) (kSeq (advOf (spec_goodEnds_E N) (codeAt (bodyOf Tryz.f22) [1,0,1,0,0])) (fun st K=>loopN (advOf (spec_goodEnds_E N) (codeAt (bodyOf Tryz.f22) [1,0,1,0,0])) (evC (spec_goodEnds_E N) (codeAt (bodyOf Tryz.f22) [1,0,1,0,0])) m0 st K) (kBlock 0 (kSeq (advOf (spec_goodEnds_E N) (codeAt (bodyOf Tryz.f22) [1,1])) (evC (spec_goodEnds_E N) (codeAt (bodyOf Tryz.f22) [1,1])) (kEnd (spec_goodEnds_E N) [] Tryz.f22.results.toList [(.int .i64),.bool]))))))))
noncomputable def spec_goodEnds_e2 (N:Nat) (m0:Nat) (v3:Int) (v4:Bool) (v1:(List Int)) (v8:Int) (v7:Int):Option (HR [(.int .i64),.bool]) :=
  gate N (evC (spec_goodEnds_E N) (codeAt (bodyOf Tryz.f22) [1,0,1,0,0,1,1,0,0,1,1]) ⟨[(2,.pv (.int .i64) v3),(3,.pv .bool v4),(11,.pv (.int .i64) v8),(12,.pv (.list (.int .i64)) v1),(13,.pv (.int .i64) (v1.length:Int)),(14,.pv (.int .i64) v7)],[],[]⟩ (kBlock 1 (kSeq (advOf (spec_goodEnds_E N) (codeAt (bodyOf Tryz.f22) [1,0,1,0,0,1,1,1])) (evC (spec_goodEnds_E N) (codeAt (bodyOf Tryz.f22) [1,0,1,0,0,1,1,1])) (kSeq (advOf (spec_goodEnds_E N) (codeAt (bodyOf Tryz.f22) [1,0,1,0,0])) (fun st K=>loopN (advOf (spec_goodEnds_E N) (codeAt (bodyOf Tryz.f22) [1,0,1,0,0])) (evC (spec_goodEnds_E N) (codeAt (bodyOf Tryz.f22) [1,0,1,0,0])) m0 st K) (kBlock 0 (kSeq (advOf (spec_goodEnds_E N) (codeAt (bodyOf Tryz.f22) [1,1])) (evC (spec_goodEnds_E N) (codeAt (bodyOf Tryz.f22) [1,1])) (kEnd (spec_goodEnds_E N) [] Tryz.f22.results.toList [(.int .i64),.bool])))))))
noncomputable def spec_goodEnds_e0 (N:Nat) (n:Nat) (v3:Int) (v4:Bool) (v1:(List Int)) (v6:Int) (v7:Int):Option (HR [(.int .i64),.bool]) :=
  loopN (advOf (spec_goodEnds_E N) (codeAt (bodyOf Tryz.f22) [1,0,1,0,0])) (evC (spec_goodEnds_E N) (codeAt (bodyOf Tryz.f22) [1,0,1,0,0])) n ⟨[(1,.pv (.int .i64) v6),(2,.pv (.int .i64) v3),(3,.pv .bool v4),(12,.pv (.list (.int .i64)) v1),(13,.pv (.int .i64) (v1.length:Int)),(14,.pv (.int .i64) v7)],[],[]⟩ (kBlock 0 (kSeq (advOf (spec_goodEnds_E N) (codeAt (bodyOf Tryz.f22) [1,1])) (evC (spec_goodEnds_E N) (codeAt (bodyOf Tryz.f22) [1,1])) (kEnd (spec_goodEnds_E N) [] Tryz.f22.results.toList [(.int .i64),.bool])))
theorem spec_goodEnds_t1 (N:Nat) (m0:Nat) (v3:Int) (v4:Bool) (v1:(List Int)) (v6:Int) (v8:Int) (v7:Int):spec_goodEnds_e1 N m0 v3 v4 v1 v6 v8 v7 = spec_goodEnds_j1 N (spec_goodEnds_e0 N m0 v3 v4 v1) v3 v4 v1 v6 v8 v7:=by
  exact (congrArg (gate N) (show evC (spec_goodEnds_E N) (codeAt (bodyOf Tryz.f22) [1,0,1,0,0,1,1,0,0,1,0,1]) ⟨[(1,.pv (.int .i64) v6),(2,.pv (.int .i64) v3),(3,.pv .bool v4),(11,.pv (.int .i64) v8),(12,.pv (.list (.int .i64)) v1),(13,.pv (.int .i64) (v1.length:Int)),(14,.pv (.int .i64) v7),(38,.pv .bool true)],[],[]⟩ (kSeq (advOf (spec_goodEnds_E N) (codeAt (bodyOf Tryz.f22) [1,0,1,0,0,1,1,0,0,1,1])) (evC (spec_goodEnds_E N) (codeAt (bodyOf Tryz.f22) [1,0,1,0,0,1,1,0,0,1,1])) (kBlock 1 (kSeq (advOf (spec_goodEnds_E N) (codeAt (bodyOf Tryz.f22) [1,0,1,0,0,1,1,1])) (evC (spec_goodEnds_E N) (codeAt (bodyOf Tryz.f22) [1,0,1,0,0,1,1,1])) (kSeq (advOf (spec_goodEnds_E N) (codeAt (bodyOf Tryz.f22) [1,0,1,0,0])) (fun st K=>loopN (advOf (spec_goodEnds_E N) (codeAt (bodyOf Tryz.f22) [1,0,1,0,0])) (evC (spec_goodEnds_E N) (codeAt (bodyOf Tryz.f22) [1,0,1,0,0])) m0 st K) (kBlock 0 (kSeq (advOf (spec_goodEnds_E N) (codeAt (bodyOf Tryz.f22) [1,1])) (evC (spec_goodEnds_E N) (codeAt (bodyOf Tryz.f22) [1,1])) (kEnd (spec_goodEnds_E N) [] Tryz.f22.results.toList [(.int .i64),.bool]))))))) = spec_goodEnds_g1 N v3 v4 v1 v6 v8 v7 (spec_goodEnds_e0 N m0 v3 v4 v1) from by kernel_rfl)).trans (by rfl)
theorem spec_goodEnds_t2 (N:Nat) (m0:Nat) (v3:Int) (v4:Bool) (v1:(List Int)) (v8:Int) (v7:Int):spec_goodEnds_e2 N m0 v3 v4 v1 v8 v7 = spec_goodEnds_j2 N (spec_goodEnds_e0 N m0 v3 v4 v1) v3 v4 v1 v8 v7:=by
  exact (congrArg (gate N) (show evC (spec_goodEnds_E N) (codeAt (bodyOf Tryz.f22) [1,0,1,0,0,1,1,0,0,1,1]) ⟨[(2,.pv (.int .i64) v3),(3,.pv .bool v4),(11,.pv (.int .i64) v8),(12,.pv (.list (.int .i64)) v1),(13,.pv (.int .i64) (v1.length:Int)),(14,.pv (.int .i64) v7)],[],[]⟩ (kBlock 1 (kSeq (advOf (spec_goodEnds_E N) (codeAt (bodyOf Tryz.f22) [1,0,1,0,0,1,1,1])) (evC (spec_goodEnds_E N) (codeAt (bodyOf Tryz.f22) [1,0,1,0,0,1,1,1])) (kSeq (advOf (spec_goodEnds_E N) (codeAt (bodyOf Tryz.f22) [1,0,1,0,0])) (fun st K=>loopN (advOf (spec_goodEnds_E N) (codeAt (bodyOf Tryz.f22) [1,0,1,0,0])) (evC (spec_goodEnds_E N) (codeAt (bodyOf Tryz.f22) [1,0,1,0,0])) m0 st K) (kBlock 0 (kSeq (advOf (spec_goodEnds_E N) (codeAt (bodyOf Tryz.f22) [1,1])) (evC (spec_goodEnds_E N) (codeAt (bodyOf Tryz.f22) [1,1])) (kEnd (spec_goodEnds_E N) [] Tryz.f22.results.toList [(.int .i64),.bool])))))) = spec_goodEnds_g2 N v3 v4 v1 v8 v7 (spec_goodEnds_e0 N m0 v3 v4 v1) from by kernel_rfl)).trans (by rfl)
theorem spec_goodEnds_t0 (N:Nat):∀ (n:Nat) (v3:Int) (v4:Bool) (v1:(List Int)) (v6:Int) (v7:Int),spec_goodEnds_e0 N n v3 v4 v1 v6 v7 = spec_goodEnds_l0 N n v3 v4 v1 v6 v7
  | 0,_,_,_,_,_=>rfl
  | n + 1,v3,v4,v1,v6,v7=>by
    have h1:(spec_goodEnds_e1 N n v3 v4 v1) = (spec_goodEnds_j1 N (spec_goodEnds_e0 N n v3 v4 v1) v3 v4 v1):=by funext v6 v8 v7; exact spec_goodEnds_t1 N n v3 v4 v1 v6 v8 v7
    have h2:(spec_goodEnds_e2 N n v3 v4 v1) = (spec_goodEnds_j2 N (spec_goodEnds_e0 N n v3 v4 v1) v3 v4 v1):=by funext v8 v7; exact spec_goodEnds_t2 N n v3 v4 v1 v8 v7
    have h:spec_goodEnds_e0 N n v3 v4 v1 = spec_goodEnds_l0 N n v3 v4 v1:=by funext v6 v7; exact spec_goodEnds_t0 N n v3 v4 v1 v6 v7
    exact (show spec_goodEnds_e0 N (n + 1) v3 v4 v1 v6 v7 = spec_goodEnds_g0 N v3 v4 v1 (spec_goodEnds_e1 N n v3 v4 v1) (spec_goodEnds_e2 N n v3 v4 v1) (spec_goodEnds_e0 N n v3 v4 v1) v6 v7 from by kernel_rfl).trans (by rw [h1,h2,h]; rfl)
theorem spec_goodEnds_t (N:Nat) (v1:(List Int)) (v2:Int) (v3:Int) (v4:Bool):evF (spec_goodEnds_E N) [] Tryz.f22 [.k (.list (.int .i64)),.k (.int .i64),.k (.int .i64),.k .bool] [(.int .i64),.bool] (v1,v2,v3,v4,()) = spec_goodEnds N v1 v2 v3 v4:=by
  have h0:(spec_goodEnds_e0 N N) = (spec_goodEnds_l0 N N):=by funext v3 v4 v1 v6 v7; exact spec_goodEnds_t0 N N v3 v4 v1 v6 v7
  exact (show evF (spec_goodEnds_E N) [] Tryz.f22 [.k (.list (.int .i64)),.k (.int .i64),.k (.int .i64),.k .bool] [(.int .i64),.bool] (v1,v2,v3,v4,()) = spec_goodEnds_g N v1 v2 v3 v4 (spec_goodEnds_e0 N N) from by kernel_rfl).trans (by rw [h0]; rfl)
noncomputable def spec_goodEnds_con (N:Nat):Con:=⟨22,[.k (.list (.int .i64)),.k (.int .i64),.k (.int .i64),.k .bool],[(.int .i64),.bool],fun x=>spec_goodEnds N x.1 x.2.1 x.2.2.1 x.2.2.2.1⟩
theorem spec_goodEnds_s (N:Nat):(spec_goodEnds_con N).Sound Tryz.prog [] :=
  Con.sound_of (c:=spec_goodEnds_con N) (E:=(spec_goodEnds_E N)) (idle:=[]) Tryz.func22 (by kernel_rfl) (by kernel_rfl) ⟨allNil,allNil,rfl⟩ allNil (fun x y h=>(spec_goodEnds_t N x.1 x.2.1 x.2.2.1 x.2.2.2.1).trans h)
/-- pub-orthodrome/spec.Good -/
def spec_Good_g1 (N:Nat) (self:Geo→Option (Bool)) (v1:Geo) (v6:Int) (r0:Int→Option (Bool)):Option (Bool) :=
  (r0 (IntKind.i64.wrap (v6 + 1)))
def spec_Good_j1 (N:Nat) (self:Geo→Option (Bool)) (r0:Int→Option (Bool)) (v1:Geo) (v6:Int):Option (Bool) :=
  gate N (spec_Good_g1 N self v1 v6 r0)
def spec_Good_g0 (N:Nat) (self:Geo→Option (Bool)) (v1:Geo) (c1:Int→Option (Bool)) (r0:Int→Option (Bool)) (v6:Int):Option (Bool) :=
  (bif (decide ((v6:Int) < (v1.kids.length:Int))) then ((nth v1.kids v6).bind fun v7=>((self (Geo.mk v7.kind v7.layout v7.srid v7.flat v7.ends v7.endss v7.kids)).bind fun v8=>bif (!v8) then (some false) else (bif (v1.layout != 0) then ((spec_LayoutOf N N (Geo.mk v7.kind v7.layout v7.srid v7.flat v7.ends v7.endss v7.kids)).bind fun v9=>(bif (v9 != v1.layout) then (some false) else (c1 v6))) else (c1 v6)))) else (bif (decide ((v1.layout:Int) ≥ 0)) then (some ((IntKind.i64.wrap ((IntKind.i64.wrap ((v1.flat.length:Int) + (v1.ends.length:Int))) + (v1.endss.length:Int))) == 0)) else (some false)))
def spec_Good_l0 (N:Nat) (self:Geo→Option (Bool)):Nat→Geo→Int→Option (Bool)
  | 0,_,_=>none
  | n + 1,v1,v6=>spec_Good_g0 N self v1 (spec_Good_j1 N self (spec_Good_l0 N self n v1) v1) (spec_Good_l0 N self n v1) v6
def spec_Good_g2 (N:Nat) (self:Geo→Option (Bool)) (v2:Int) (v1:Geo):Option (Bool) :=
  (some false)
def spec_Good_j2 (N:Nat) (self:Geo→Option (Bool)) (v2:Int) (v1:Geo):Option (Bool) :=
  gate N (spec_Good_g2 N self v2 v1)
def spec_Good_g7 (N:Nat) (self:Geo→Option (Bool)) (v2:Int) (v1:Geo) (v19:(Int×Bool)) (v17:Int) (r6:Int→Bool→Int→Option (Bool)) (v20:Bool):Option (Bool) :=
  (r6 v19.1 v20 (IntKind.i64.wrap (v17 + 1)))
def spec_Good_j7 (N:Nat) (self:Geo→Option (Bool)) (r6:Int→Bool→Int→Option (Bool)) (v2:Int) (v1:Geo) (v19:(Int×Bool)) (v17:Int) (v20:Bool):Option (Bool) :=
  gate N (spec_Good_g7 N self v2 v1 v19 v17 r6 v20)
def spec_Good_g6 (N:Nat) (self:Geo→Option (Bool)) (v2:Int) (v1:Geo) (c7:(Int×Bool)→Int→Bool→Option (Bool)) (r6:Int→Bool→Int→Option (Bool)) (v15:Int) (v16:Bool) (v17:Int):Option (Bool) :=
  (bif (decide ((v17:Int) < (v1.endss.length:Int))) then ((nth v1.endss v17).bind fun v18=>((spec_goodEnds N v18 v15 v2 false).bind fun v19=>(bif v16 then (c7 v19 v17 v19.2) else (c7 v19 v17 false)))) else (bif v16 then (bif (v15 == (v1.flat.length:Int)) then (some ((v1.ends.length:Int) == 0)) else (some false)) else (some false)))
def spec_Good_l6 (N:Nat) (self:Geo→Option (Bool)):Nat→Int→Geo→Int→Bool→Int→Option (Bool)
  | 0,_,_,_,_,_=>none
  | n + 1,v2,v1,v15,v16,v17=>spec_Good_g6 N self v2 v1 (spec_Good_j7 N self (spec_Good_l6 N self n v2 v1) v2 v1) (spec_Good_l6 N self n v2 v1) v15 v16 v17
def spec_Good_g5 (N:Nat) (self:Geo→Option (Bool)) (v2:Int) (v1:Geo) (c6:Int→Geo→Int→Bool→Int→Option (Bool)) (v11:Bool):Option (Bool) :=
  bif v11 then ((spec_goodEnds N v1.ends 0 v2 (v1.kind == 4)).bind fun v12=>(bif v12.2 then (some (v12.1 == (v1.flat.length:Int))) else (some false))) else (bif (v1.kind == 6) then ((c6 v2 v1 0 true 0)) else (some false))
def spec_Good_j5 (N:Nat) (self:Geo→Option (Bool)) (v2:Int) (v1:Geo) (v11:Bool):Option (Bool) :=
  gate N (spec_Good_g5 N self v2 v1 (spec_Good_l6 N self N) v11)
def spec_Good_g4 (N:Nat) (self:Geo→Option (Bool)) (v2:Int) (v1:Geo) (c5:Int→Geo→Bool→Option (Bool)) (v10:Bool):Option (Bool) :=
  bif v10 then (some ((v1.ends.length:Int) == 0)) else (bif (v1.kind == 3) then (c5 v2 v1 (v1.kind == 3)) else (bif (v1.kind == 4) then (c5 v2 v1 (v1.kind == 4)) else (c5 v2 v1 (v1.kind == 5))))
def spec_Good_j4 (N:Nat) (self:Geo→Option (Bool)) (v2:Int) (v1:Geo) (v10:Bool):Option (Bool) :=
  gate N (spec_Good_g4 N self v2 v1 (spec_Good_j5 N self) v10)
def spec_Good_g3 (N:Nat) (self:Geo→Option (Bool)) (v2:Int) (v1:Geo) (c4:Int→Geo→Bool→Option (Bool)):Option (Bool) :=
  (bif (v1.kind == 1) then (bif ((v1.ends.length:Int) == 0) then (some (decide (((v1.flat.length:Int):Int) ≤ v2))) else (some false)) else (bif (v1.kind == 2) then (c4 v2 v1 (v1.kind == 2)) else (c4 v2 v1 (v1.kind == 8))))
def spec_Good_j3 (N:Nat) (self:Geo→Option (Bool)) (v2:Int) (v1:Geo):Option (Bool) :=
  gate N (spec_Good_g3 N self v2 v1 (spec_Good_j4 N self))
def spec_Good_g (N:Nat) (self:Geo→Option (Bool)) (v1:Geo) (c0:Geo→Int→Option (Bool)) (c2:Int→Geo→Option (Bool)) (c3:Int→Geo→Option (Bool)):Option (Bool) :=
  ((spec_Stride N v1.layout).bind fun v2=>(bif (v1.kind == 7) then ((c0 v1 0)) else (bif (v2 == 0) then (c2 v2 v1) else (if v2 = 0 then none else bif ((Int.tmod (v1.flat.length:Int) v2) != 0) then (c2 v2 v1) else (bif (decide (((v1.kids.length:Int):Int) > 0)) then (c2 v2 v1) else (bif (decide (((v1.endss.length:Int):Int) > 0)) then (gate N (bif (v1.kind != 6) then (some false) else (c3 v2 v1))) else (gate N (c3 v2 v1))))))))
def spec_Good (N:Nat):Nat→Geo→Option (Bool)
  | 0,_=>none
  | d + 1,v1=>spec_Good_g N (spec_Good N d) v1 (spec_Good_l0 N (spec_Good N d) N) (spec_Good_j2 N (spec_Good N d)) (spec_Good_j3 N (spec_Good N d))
noncomputable def spec_Good_con' (N:Nat) (d:Nat):Con:=⟨9,[.k .geo],[.bool],fun x=>spec_Good N d x.1⟩
noncomputable def spec_Good_E (N:Nat) (d:Nat):Env:=⟨Tryz.prog,N,[spec_Good_con' N d,spec_Stride_con N,spec_LayoutOf_con N,spec_goodEnds_con N],[(0,⟨[],[],[],[],[],[0],[],none⟩),(1,⟨[],[],[],[],[],[1],[1],none⟩),(2,⟨[],[],[],[],[],[1,3],[1],none⟩),(3,⟨[],[],[],[],[],[1,3,18],[1],none⟩),(4,⟨[],[],[],[],[],[1,20,21,22],[1],none⟩),(5,⟨[],[],[],[],[],[1,20,21,22],[1],none⟩),(6,⟨[],[],[],[],[],[1,5,20,21,22],[1,5],none⟩),(7,⟨[],[],[],[],[],[1,20,21,22,40],[1],none⟩),(8,⟨[],[],[],[],[],[1,20,21,22],[1],some N⟩),(9,⟨[],[],[],[],[],[1],[1],none⟩),(10,⟨[],[],[],[],[],[1,3],[1],none⟩),(11,⟨[],[],[],[],[],[1,3,85],[1],some N⟩),(12,⟨[],[],[],[],[],[1,3],[1],some N⟩),(13,⟨[],[],[],[],[],[1,3,87],[1],none⟩),(14,⟨[],[],[],[],[],[1,3,87,88],[1],none⟩),(16,⟨[],[],[],[],[],[1,3,87,101],[1],none⟩),(17,⟨[],[],[],[],[],[1,3,87,101],[1],some N⟩),(19,⟨[],[],[],[],[],[1,3,87,108],[1],none⟩),(20,⟨[],[],[],[],[],[1,3,87,108],[1],none⟩),(21,⟨[],[],[],[],[],[1,3,87,108],[1],some N⟩),(22,⟨[],[],[],[],[],[1,6,7],[1],none⟩),(24,⟨[],[],[],[],[],[1,3,130],[1],none⟩),(25,⟨[],[],[],[],[],[1,3,8,9],[1],none⟩),(26,⟨[],[],[],[],[],[1,3,8,9,133,134,135],[1],none⟩),(27,⟨[],[],[],[],[],[1,3,8,9,133,134,135],[1],none⟩),(28,⟨[],[],[],[],[],[1,3,8,9,11,133,134,135],[1],none⟩),(29,⟨[],[],[],[],[],[1,3,8,9,11,133,134,135],[1],none⟩),(30,⟨[],[],[],[],[],[1,3,8,9,12,133,134,135],[1],none⟩),(31,⟨[],[],[],[],[],[1,3,8,9,133,134,135],[1],some N⟩),(32,⟨[],[],[],[],[],[1,8,9],[1],none⟩),(33,⟨[],[],[],[],[],[],[],none⟩)],kdL [],[],[],[],[61,89,92,95,99,105,108,112]⟩
set_option maxRecDepth 100000
noncomputable def spec_Good_e1 (N:Nat) (d:Nat) (m0:Nat) (v1:Geo) (v6:Int):Option (HR [.bool]) :=
  gate N (evC (spec_Good_E N d) (codeAt (bodyOf Tryz.f9) [1,1,0,1,0,0,1,0,0,1,1,1]) ⟨[(1,.ref 1 0),(20,.pv (.list .geo) v1.kids),(21,.pv (.int .i64) (v1.kids.length:Int)),(22,.pv (.int .i64) v6)],[(1,.box [.pv (.int .i64) v1.kind,.pv (.int .i64) v1.layout,.pv (.int .i64) v1.srid,.pv (.list .float) v1.flat,.pv (.list (.int .i64)) v1.ends,.pv (.list (.list (.int .i64))) v1.endss,.pv (.list .geo) v1.kids])],[]⟩ (kSeq (advOf (spec_Good_E N d) (codeAt (bodyOf Tryz.f9) [1,1,0,1,0,0,1,0,0])) (fun st K=>loopN (advOf (spec_Good_E N d) (codeAt (bodyOf Tryz.f9) [1,1,0,1,0,0,1,0,0])) (evC (spec_Good_E N d) (codeAt (bodyOf Tryz.f9) [1,1,0,1,0,0,1,0,0])) m0 st K) (kBlock 0 (kSeq (advOf (spec_Good_E N d) (codeAt (bodyOf Tryz.f9) [1,1,0,1,0,1])) (evC (spec_Good_E N d) (codeAt (bodyOf Tryz.f9) [1,1,0,1,0,1])) (kSeq (advOf (spec_Good_E N d) (codeAt (bodyOf Tryz.f9) [1,1,1])) (evC (spec_Good_E N d) (codeAt (bodyOf Tryz.f9) [1,1,1])) (kEnd (spec_Good_E N d) [] Tryz.f9.results.toList [.bool]))))))
noncomputable def spec_Good_e0 (N:Nat) (d:Nat) (n:Nat) (v1:Geo) (v6:Int):Option (HR [.bool]) :=
  loopN (advOf (spec_Good_E N d) (codeAt (bodyOf Tryz.f9) [1,1,0,1,0,0,1,0,0])) (evC (spec_Good_E N d) (codeAt (bodyOf Tryz.f9) [1,1,0,1,0,0,1,0,0])) n ⟨[(1,.ref 1 0),(20,.pv (.list .geo) v1.kids),(21,.pv (.int .i64) (v1.kids.length:Int)),(22,.pv (.int .i64) v6)],[(1,.box [.pv (.int .i64) v1.kind,.pv (.int .i64) v1.layout,.pv (.int .i64) v1.srid,.pv (.list .float) v1.flat,.pv (.list (.int .i64)) v1.ends,.pv (.list (.list (.int .i64))) v1.endss,.pv (.list .geo) v1.kids])],[]⟩ (kBlock 0 (kSeq (advOf (spec_Good_E N d) (codeAt (bodyOf Tryz.f9) [1,1,0,1,0,1])) (evC (spec_Good_E N d) (codeAt (bodyOf Tryz.f9) [1,1,0,1,0,1])) (kSeq (advOf (spec_Good_E N d) (codeAt (bodyOf Tryz.f9) [1,1,1])) (evC (spec_Good_E N d) (codeAt (bodyOf Tryz.f9) [1,1,1])) (kEnd (spec_Good_E N d) [] Tryz.f9.results.toList [.bool]))))
noncomputable def spec_Good_e2 (N:Nat) (d:Nat) (v2:Int) (v1:Geo):Option (HR [.bool]) :=
  gate N (evC (spec_Good_E N d) (codeAt (bodyOf Tryz.f9) [1,1,1,0,1]) ⟨[(1,.ref 1 0),(3,.pv (.int .i64) v2),(85,.pv .bool true)],[(1,.box [.pv (.int .i64) v1.kind,.pv (.int .i64) v1.layout,.pv (.int .i64) v1.srid,.pv (.list .float) v1.flat,.pv (.list (.int .i64)) v1.ends,.pv (.list (.list (.int .i64))) v1.endss,.pv (.list .geo) v1.kids])],[]⟩ (kSeq (advOf (spec_Good_E N d) (codeAt (bodyOf Tryz.f9) [1,1,1,1])) (evC (spec_Good_E N d) (codeAt (bodyOf Tryz.f9) [1,1,1,1])) (kEnd (spec_Good_E N d) [] Tryz.f9.results.toList [.bool])))
noncomputable def spec_Good_e7 (N:Nat) (d:Nat) (m6:Nat) (v2:Int) (v1:Geo) (v19:(Int×Bool)) (v17:Int) (v20:Bool):Option (HR [.bool]) :=
  gate N (evC (spec_Good_E N d) (codeAt (bodyOf Tryz.f9) [1,1,1,1,0,1,0,1,1,1,1,1,1,1,0,1,0,1,0,0,1,1,1]) ⟨[(1,.ref 1 0),(3,.pv (.int .i64) v2),(8,.pv (.int .i64) v19.1),(9,.pv .bool v20),(133,.pv (.list (.list (.int .i64))) v1.endss),(134,.pv (.int .i64) (v1.endss.length:Int)),(135,.pv (.int .i64) v17)],[(1,.box [.pv (.int .i64) v1.kind,.pv (.int .i64) v1.layout,.pv (.int .i64) v1.srid,.pv (.list .float) v1.flat,.pv (.list (.int .i64)) v1.ends,.pv (.list (.list (.int .i64))) v1.endss,.pv (.list .geo) v1.kids])],[]⟩ (kSeq (advOf (spec_Good_E N d) (codeAt (bodyOf Tryz.f9) [1,1,1,1,0,1,0,1,1,1,1,1,1,1,0,1,0,1,0,0])) (fun st K=>loopN (advOf (spec_Good_E N d) (codeAt (bodyOf Tryz.f9) [1,1,1,1,0,1,0,1,1,1,1,1,1,1,0,1,0,1,0,0])) (evC (spec_Good_E N d) (codeAt (bodyOf Tryz.f9) [1,1,1,1,0,1,0,1,1,1,1,1,1,1,0,1,0,1,0,0])) m6 st K) (kBlock 3 (kSeq (advOf (spec_Good_E N d) (codeAt (bodyOf Tryz.f9) [1,1,1,1,0,1,0,1,1,1,1,1,1,1,0,1,1])) (evC (spec_Good_E N d) (codeAt (bodyOf Tryz.f9) [1,1,1,1,0,1,0,1,1,1,1,1,1,1,0,1,1])) (kBlock 2 (kSeq (advOf (spec_Good_E N d) (codeAt (bodyOf Tryz.f9) [1,1,1,1,1])) (evC (spec_Good_E N d) (codeAt (bodyOf Tryz.f9) [1,1,1,1,1])) (kEnd (spec_Good_E N d) [] Tryz.f9.results.toList [.bool])))))))
noncomputable def spec_Good_e6 (N:Nat) (d:Nat) (n:Nat) (v2:Int) (v1:Geo) (v15:Int) (v16:Bool) (v17:Int):Option (HR [.bool]) :=
  loopN (advOf (spec_Good_E N d) (codeAt (bodyOf Tryz.f9) [1,1,1,1,0,1,0,1,1,1,1,1,1,1,0,1,0,1,0,0])) (evC (spec_Good_E N d) (codeAt (bodyOf Tryz.f9) [1,1,1,1,0,1,0,1,1,1,1,1,1,1,0,1,0,1,0,0])) n ⟨[(1,.ref 1 0),(3,.pv (.int .i64) v2),(8,.pv (.int .i64) v15),(9,.pv .bool v16),(133,.pv (.list (.list (.int .i64))) v1.endss),(134,.pv (.int .i64) (v1.endss.length:Int)),(135,.pv (.int .i64) v17)],[(1,.box [.pv (.int .i64) v1.kind,.pv (.int .i64) v1.layout,.pv (.int .i64) v1.srid,.pv (.list .float) v1.flat,.pv (.list (.int .i64)) v1.ends,.pv (.list (.list (.int .i64))) v1.endss,.pv (.list .geo) v1.kids])],[]⟩ (kBlock 3 (kSeq (advOf (spec_Good_E N d) (codeAt (bodyOf Tryz.f9) [1,1,1,1,0,1,0,1,1,1,1,1,1,1,0,1,1])) (evC (spec_Good_E N d) (codeAt (bodyOf Tryz.f9) [1,1,1,1,0,1,0,1,1,1,1,1,1,1,0,1,1])) (kBlock 2 (kSeq (advOf (spec_Good_E N d) (codeAt (bodyOf Tryz.f9) [1,1,1,1,1])) (evC (spec_Good_E N d) (codeAt (bodyOf Tryz.f9) [1,1,1,1,1])) (kEnd (spec_Good_E N d) [] Tryz.f9.results.toList [.bool])))))
noncomputable def spec_Good_e5 (N:Nat) (d:Nat) (v2:Int) (v1:Geo) (v11:Bool):Option (HR [.bool]) :=
  gate N (evC (spec_Good_E N d) (codeAt (bodyOf Tryz.f9) [1,1,1,1,0,1,0,1,1,1,1,1]) ⟨[(1,.ref 1 0),(3,.pv (.int .i64) v2),(87,.pv (.int .i64) v1.kind),(108,.pv .bool v11)],[(1,.box [.pv (.int .i64) v1.kind,.pv (.int .i64) v1.layout,.pv (.int .i64) v1.srid,.pv (.list .float) v1.flat,.pv (.list (.int .i64)) v1.ends,.pv (.list (.list (.int .i64))) v1.endss,.pv (.list .geo) v1.kids])],[]⟩ (kBlock 2 (kSeq (advOf (spec_Good_E N d) (codeAt (bodyOf Tryz.f9) [1,1,1,1,1])) (evC (spec_Good_E N d) (codeAt (bodyOf Tryz.f9) [1,1,1,1,1])) (kEnd (spec_Good_E N d) [] Tryz.f9.results.toList [.bool]))))
noncomputable def spec_Good_e4 (N:Nat) (d:Nat) (v2:Int) (v1:Geo) (v10:Bool):Option (HR [.bool]) :=
  gate N (evC (spec_Good_E N d) (codeAt (bodyOf Tryz.f9) [1,1,1,1,0,1,0,1,1,1]) ⟨[(1,.ref 1 0),(3,.pv (.int .i64) v2),(87,.pv (.int .i64) v1.kind),(101,.pv .bool v10)],[(1,.box [.pv (.int .i64) v1.kind,.pv (.int .i64) v1.layout,.pv (.int .i64) v1.srid,.pv (.list .float) v1.flat,.pv (.list (.int .i64)) v1.ends,.pv (.list (.list (.int .i64))) v1.endss,.pv (.list .geo) v1.kids])],[]⟩ (kBlock 2 (kSeq (advOf (spec_Good_E N d) (codeAt (bodyOf Tryz.f9) [1,1,1,1,1])) (evC (spec_Good_E N d) (codeAt (bodyOf Tryz.f9) [1,1,1,1,1])) (kEnd (spec_Good_E N d) [] Tryz.f9.results.toList [.bool]))))
noncomputable def spec_Good_e3 (N:Nat) (d:Nat) (v2:Int) (v1:Geo):Option (HR [.bool]) :=
  gate N (evC (spec_Good_E N d) (codeAt (bodyOf Tryz.f9) [1,1,1,1]) ⟨[(1,.ref 1 0),(3,.pv (.int .i64) v2)],[(1,.box [.pv (.int .i64) v1.kind,.pv (.int .i64) v1.layout,.pv (.int .i64) v1.srid,.pv (.list .float) v1.flat,.pv (.list (.int .i64)) v1.ends,.pv (.list (.list (.int .i64))) v1.endss,.pv (.list .geo) v1.kids])],[]⟩ (kEnd (spec_Good_E N d) [] Tryz.f9.results.toList [.bool]))
theorem spec_Good_t1 (N:Nat) (d:Nat) (m0:Nat) (v1:Geo) (v6:Int):spec_Good_e1 N d m0 v1 v6 = spec_Good_j1 N (spec_Good N d) (spec_Good_e0 N d m0 v1) v1 v6:=by
  exact (congrArg (gate N) (show evC (spec_Good_E N d) (codeAt (bodyOf Tryz.f9) [1,1,0,1,0,0,1,0,0,1,1,1]) ⟨[(1,.ref 1 0),(20,.pv (.list .geo) v1.kids),(21,.pv (.int .i64) (v1.kids.length:Int)),(22,.pv (.int .i64) v6)],[(1,.box [.pv (.int .i64) v1.kind,.pv (.int .i64) v1.layout,.pv (.int .i64) v1.srid,.pv (.list .float) v1.flat,.pv (.list (.int .i64)) v1.ends,.pv (.list (.list (.int .i64))) v1.endss,.pv (.list .geo) v1.kids])],[]⟩ (kSeq (advOf (spec_Good_E N d) (codeAt (bodyOf Tryz.f9) [1,1,0,1,0,0,1,0,0])) (fun st K=>loopN (advOf (spec_Good_E N d) (codeAt (bodyOf Tryz.f9) [1,1,0,1,0,0,1,0,0])) (evC (spec_Good_E N d) (codeAt (bodyOf Tryz.f9) [1,1,0,1,0,0,1,0,0])) m0 st K) (kBlock 0 (kSeq (advOf (spec_Good_E N d) (codeAt (bodyOf Tryz.f9) [1,1,0,1,0,1])) (evC (spec_Good_E N d) (codeAt (bodyOf Tryz.f9) [1,1,0,1,0,1])) (kSeq (advOf (spec_Good_E N d) (codeAt (bodyOf Tryz.f9) [1,1,1])) (evC (spec_Good_E N d) (codeAt (bodyOf Tryz.f9) [1,1,1])) (kEnd (spec_Good_E N d) [] Tryz.f9.results.toList [.bool]))))) = spec_Good_g1 N (spec_Good N d) v1 v6 (spec_Good_e0 N d m0 v1) from by kernel_rfl)).trans (by rfl)
theorem spec_Good_t0 (N:Nat) (d:Nat):∀ (n:Nat) (v1:Geo) (v6:Int),spec_Good_e0 N d n v1 v6 = spec_Good_l0 N (spec_Good N d) n v1 v6
  | 0,_,_=>rfl
  | n + 1,v1,v6=>by
    have h1:(spec_Good_e1 N d n v1) = (spec_Good_j1 N (spec_Good N d) (spec_Good_e0 N d n v1) v1):=by funext v6; exact spec_Good_t1 N d n v1 v6
    have h:spec_Good_e0 N d n v1 = spec_Good_l0 N (spec_Good N d) n v1:=by funext v6; exact spec_Good_t0 N d n v1 v6
    exact (show spec_Good_e0 N d (n + 1) v1 v6 = spec_Good_g0 N (spec_Good N d) v1 (spec_Good_e1 N d n v1) (spec_Good_e0 N d n v1) v6 from by kernel_rfl).trans (by rw [h1,h]; rfl)
theorem spec_Good_t2 (N:Nat) (d:Nat) (v2:Int) (v1:Geo):spec_Good_e2 N d v2 v1 = spec_Good_j2 N (spec_Good N d) v2 v1:=by
  exact (congrArg (gate N) (show evC (spec_Good_E N d) (codeAt (bodyOf Tryz.f9) [1,1,1,0,1]) ⟨[(1,.ref 1 0),(3,.pv (.int .i64) v2),(85,.pv .bool true)],[(1,.box [.pv (.int .i64) v1.kind,.pv (.int .i64) v1.layout,.pv (.int .i64) v1.srid,.pv (.list .float) v1.flat,.pv (.list (.int .i64)) v1.ends,.pv (.list (.list (.int .i64))) v1.endss,.pv (.list .geo) v1.kids])],[]⟩ (kSeq (advOf (spec_Good_E N d) (codeAt (bodyOf Tryz.f9) [1,1,1,1])) (evC (spec_Good_E N d) (codeAt (bodyOf Tryz.f9) [1,1,1,1])) (kEnd (spec_Good_E N d) [] Tryz.f9.results.toList [.bool])) = spec_Good_g2 N (spec_Good N d) v2 v1 from by kernel_rfl)).trans (by rfl)
theorem spec_Good_t7 (N:Nat) (d:Nat) (m6:Nat) (v2:Int) (v1:Geo) (v19:(Int×Bool)) (v17:Int) (v20:Bool):spec_Good_e7 N d m6 v2 v1 v19 v17 v20 = spec_Good_j7 N (spec_Good N d) (spec_Good_e6 N d m6 v2 v1) v2 v1 v19 v17 v20:=by
  exact (congrArg (gate N) (show evC (spec_Good_E N d) (codeAt (bodyOf Tryz.f9) [1,1,1,1,0,1,0,1,1,1,1,1,1,1,0,1,0,1,0,0,1,1,1]) ⟨[(1,.ref 1 0),(3,.pv (.int .i64) v2),(8,.pv (.int .i64) v19.1),(9,.pv .bool v20),(133,.pv (.list (.list (.int .i64))) v1.endss),(134,.pv (.int .i64) (v1.endss.length:Int)),(135,.pv (.int .i64) v17)],[(1,.box [.pv (.int .i64) v1.kind,.pv (.int .i64) v1.layout,.pv (.int .i64) v1.srid,.pv (.list .float) v1.flat,.pv (.list (.int .i64)) v1.ends,.pv (.list (.list (.int .i64))) v1.endss,.pv (.list .geo) v1.kids])],[]⟩ (kSeq (advOf (spec_Good_E N d) (codeAt (bodyOf Tryz.f9) [1,1,1,1,0,1,0,1,1,1,1,1,1,1,0,1,0,1,0,0])) (fun st K=>loopN (advOf (spec_Good_E N d) (codeAt (bodyOf Tryz.f9) [1,1,1,1,0,1,0,1,1,1,1,1,1,1,0,1,0,1,0,0])) (evC (spec_Good_E N d) (codeAt (bodyOf Tryz.f9) [1,1,1,1,0,1,0,1,1,1,1,1,1,1,0,1,0,1,0,0])) m6 st K) (kBlock 3 (kSeq (advOf (spec_Good_E N d) (codeAt (bodyOf Tryz.f9) [1,1,1,1,0,1,0,1,1,1,1,1,1,1,0,1,1])) (evC (spec_Good_E N d) (codeAt (bodyOf Tryz.f9) [1,1,1,1,0,1,0,1,1,1,1,1,1,1,0,1,1])) (kBlock 2 (kSeq (advOf (spec_Good_E N d) (codeAt (bodyOf Tryz.f9) [1,1,1,1,1])) (evC (spec_Good_E N d) (codeAt (bodyOf Tryz.f9) [1,1,1,1,1])) (kEnd (spec_Good_E N d) [] Tryz.f9.results.toList [.bool])))))) = spec_Good_g7 N (spec_Good N d) v2 v1 v19 v17 (spec_Good_e6 N d m6 v2 v1) v20 from by kernel_rfl)).trans (by rfl)
theorem spec_Good_t6 (N:Nat) (d:Nat):∀ (n:Nat) (v2:Int) (v1:Geo) (v15:Int) (v16:Bool) (v17:Int),spec_Good_e6 N d n v2 v1 v15 v16 v17 = spec_Good_l6 N (spec_Good N d) n v2 v1 v15 v16 v17
  | 0,_,_,_,_,_=>rfl
  | n + 1,v2,v1,v15,v16,v17=>by
    have h7:(spec_Good_e7 N d n v2 v1) = (spec_Good_j7 N (spec_Good N d) (spec_Good_e6 N d n v2 v1) v2 v1):=by funext v19 v17 v20; exact spec_Good_t7 N d n v2 v1 v19 v17 v20
    have h:spec_Good_e6 N d n v2 v1 = spec_Good_l6 N (spec_Good N d) n v2 v1:=by funext v15 v16 v17; exact spec_Good_t6 N d n v2 v1 v15 v16 v17
    exact (show spec_Good_e6 N d (n + 1) v2 v1 v15 v16 v17 = spec_Good_g6 N (spec_Good N d) v2 v1 (spec_Good_e7 N d n v2 v1) (spec_Good_e6 N d n v2 v1) v15 v16 v17 from by kernel_rfl).trans (by rw [h7,h]; rfl)
theorem spec_Good_t5 (N:Nat) (d:Nat) (v2:Int) (v1:Geo) (v11:Bool):spec_Good_e5 N d v2 v1 v11 = spec_Good_j5 N (spec_Good N d) v2 v1 v11:=by
  have h6:(spec_Good_e6 N d N) = (spec_Good_l6 N (spec_Good N d) N):=by funext v2 v1 v15 v16 v17; exact spec_Good_t6 N d N v2 v1 v15 v16 v17
  exact (congrArg (gate N) (show evC (spec_Good_E N d) (codeAt (bodyOf Tryz.f9) [1,1,1,1,0,1,0,1,1,1,1,1]) ⟨[(1,.ref 1 0),(3,.pv (.int .i64) v2),(87,.pv (.int .i64) v1.kind),(108,.pv .bool v11)],[(1,.box [.pv (.int .i64) v1.kind,.pv (.int .i64) v1.layout,.pv (.int .i64) v1.srid,.pv (.list .float) v1.flat,.pv (.list (.int .i64)) v1.ends,.pv (.list (.list (.int .i64))) v1.endss,.pv (.list .geo) v1.kids])],[]⟩ (kBlock 2 (kSeq (advOf (spec_Good_E N d) (codeAt (bodyOf Tryz.f9) [1,1,1,1,1])) (evC (spec_Good_E N d) (codeAt (bodyOf Tryz.f9) [1,1,1,1,1])) (kEnd (spec_Good_E N d) [] Tryz.f9.results.toList [.bool]))) = spec_Good_g5 N (spec_Good N d) v2 v1 (spec_Good_e6 N d N) v11 from by kernel_rfl)).trans (by rw [h6]; rfl)
theorem spec_Good_t4 (N:Nat) (d:Nat) (v2:Int) (v1:Geo) (v10:Bool):spec_Good_e4 N d v2 v1 v10 = spec_Good_j4 N (spec_Good N d) v2 v1 v10:=by
  have h5:(spec_Good_e5 N d) = (spec_Good_j5 N (spec_Good N d)):=by funext v2 v1 v11; exact spec_Good_t5 N d v2 v1 v11
  exact (congrArg (gate N) (show evC (spec_Good_E N d) (codeAt (bodyOf Tryz.f9) [1,1,1,1,0,1,0,1,1,1]) ⟨[(1,.ref 1 0),(3,.pv (.int .i64) v2),(87,.pv (.int .i64) v1.kind),(101,.pv .bool v10)],[(1,.box [.pv (.int .i64) v1.kind,.pv (.int .i64) v1.layout,.pv (.int .i64) v1.srid,.pv (.list .float) v1.flat,.pv (.list (.int .i64)) v1.ends,.pv (.list (.list (.int .i64))) v1.endss,.pv (.list .geo) v1.kids])],[]⟩ (kBlock 2 (kSeq (advOf (spec_Good_E N d) (codeAt (bodyOf Tryz.f9) [1,1,1,1,1])) (evC (spec_Good_E N d) (codeAt (bodyOf Tryz.f9) [1,1,1,1,1])) (kEnd (spec_Good_E N d) [] Tryz.f9.results.toList [.bool]))) = spec_Good_g4 N (spec_Good N d) v2 v1 (spec_Good_e5 N d) v10 from by kernel_rfl)).trans (by rw [h5]; rfl)
theorem spec_Good_t3 (N:Nat) (d:Nat) (v2:Int) (v1:Geo):spec_Good_e3 N d v2 v1 = spec_Good_j3 N (spec_Good N d) v2 v1:=by
  have h4:(spec_Good_e4 N d) = (spec_Good_j4 N (spec_Good N d)):=by funext v2 v1 v10; exact spec_Good_t4 N d v2 v1 v10
  exact (congrArg (gate N) (show evC (spec_Good_E N d) (codeAt (bodyOf Tryz.f9) [1,1,1,1]) ⟨[(1,.ref 1 0),(3,.pv (.int .i64) v2)],[(1,.box [.pv (.int .i64) v1.kind,.pv (.int .i64) v1.layout,.pv (.int .i64) v1.srid,.pv (.list .float) v1.flat,.pv (.list (.int .i64)) v1.ends,.pv (.list (.list (.int .i64))) v1.endss,.pv (.list .geo) v1.kids])],[]⟩ (kEnd (spec_Good_E N d) [] Tryz.f9.results.toList [.bool]) = spec_Good_g3 N (spec_Good N d) v2 v1 (spec_Good_e4 N d) from by kernel_rfl)).trans (by rw [h4]; rfl)
theorem spec_Good_t (N:Nat) (d:Nat) (v1:Geo):evF (spec_Good_E N d) [] Tryz.f9 [.k .geo] [.bool] (v1,()) = spec_Good N (d + 1) v1:=by
  have h0:(spec_Good_e0 N d N) = (spec_Good_l0 N (spec_Good N d) N):=by funext v1 v6; exact spec_Good_t0 N d N v1 v6
  have h2:(spec_Good_e2 N d) = (spec_Good_j2 N (spec_Good N d)):=by funext v2 v1; exact spec_Good_t2 N d v2 v1
  have h3:(spec_Good_e3 N d) = (spec_Good_j3 N (spec_Good N d)):=by funext v2 v1; exact spec_Good_t3 N d v2 v1
  exact (show evF (spec_Good_E N d) [] Tryz.f9 [.k .geo] [.bool] (v1,()) = spec_Good_g N (spec_Good N d) v1 (spec_Good_e0 N d N) (spec_Good_e2 N d) (spec_Good_e3 N d) from by kernel_rfl).trans (by rw [h0,h2,h3]; rfl)
theorem spec_Good_s' (N:Nat):∀ d,(spec_Good_con' N d).Sound Tryz.prog []
  | 0=>fun _ _ _ _ _ _ _ _ h=>by cases h
  | d + 1=>Con.sound_of (c:=spec_Good_con' N (d + 1)) (E:=(spec_Good_E N d)) (idle:=[]) Tryz.func9 (by kernel_rfl) (by kernel_rfl) ⟨(allCons (spec_Good_s' N d) (allCons (spec_Stride_s N) (allCons (spec_LayoutOf_s N) (allCons (spec_goodEnds_s N) allNil)))),allNil,rfl⟩ allNil (fun x y h=>(spec_Good_t N d x.1).trans h)
noncomputable def spec_Good_con (N:Nat):Con:=spec_Good_con' N N
theorem spec_Good_s (N:Nat):(spec_Good_con N).Sound Tryz.prog []:=spec_Good_s' N N
/-- math.Float64frombits -/
def math_Float64frombits (N:Nat) (v1:Int):Option Nat:=some (v1:Int).toNat
noncomputable def math_Float64frombits_con (N:Nat):Con:=⟨80,[.k (.int .u64)],[.float],fun x=>math_Float64frombits N x.1⟩
theorem math_Float64frombits_s (N:Nat):(math_Float64frombits_con N).Sound Tryz.prog []:=frombits_of Tryz.func80 (by kernel_rfl) (by kernel_rfl) (by kernel_rfl) (by kernel_rfl)
/-- math.Abs -/
noncomputable def math_Abs_E (N:Nat):Env:=⟨Tryz.prog,N,[math_Float64bits_con N,math_Float64frombits_con N],[(0,⟨[],[],[],[],[],[0],[],none⟩),(1,⟨[],[],[],[],[],[0],[],none⟩)],kdL [],[],[],[],[61,89,92,95,99,105,108,112]⟩
def math_Abs_g (N:Nat) (v1:Nat):Option (Nat) :=
  ((math_Float64bits N v1).bind fun v2=>(math_Float64frombits N (bits .andNot .u64 v2 9223372036854775808)).bind fun v3=>(some v3))
def math_Abs (N:Nat) (v1:Nat):Option (Nat) :=
  math_Abs_g N v1
set_option maxRecDepth 100000
theorem math_Abs_t (N:Nat) (v1:Nat):evF (math_Abs_E N) [] Tryz.f75 [.k .float] [.float] (v1,()) = math_Abs N v1:=by
  exact (show evF (math_Abs_E N) [] Tryz.f75 [.k .float] [.float] (v1,()) = math_Abs_g N v1 from by kernel_rfl).trans (by rfl)
noncomputable def math_Abs_con (N:Nat):Con:=⟨75,[.k .float],[.float],fun x=>math_Abs N x.1⟩
theorem math_Abs_s (N:Nat):(math_Abs_con N).Sound Tryz.prog [] :=
  Con.sound_of (c:=math_Abs_con N) (E:=(math_Abs_E N)) (idle:=[]) Tryz.func75 (by kernel_rfl) (by kernel_rfl) ⟨(allCons (math_Float64bits_s N) (allCons (math_Float64frombits_s N) allNil)),allNil,rfl⟩ allNil (fun x y h=>(math_Abs_t N x.1).trans h)
/-- math.archTrunc -/
def math_archTrunc (N:Nat) (v1:Nat):Option ((Nat×Unit) ⊕ (Unit×Unit)):=some (fwholeN .zero v1)
noncomputable def math_archTrunc_con (N:Nat):Con2:=⟨78,[.k .float],[⟨[.k .float],[none]⟩,⟨[.nan],[none]⟩],fun x=>math_archTrunc N x.1⟩
theorem math_archTrunc_s (N:Nat):(math_archTrunc_con N).Sound Tryz.prog []:=wholeN_of (name:="math.archTrunc") Tryz.func78 (by kernel_rfl) (by kernel_rfl) (by kernel_rfl) (by kernel_rfl)
/-- math.Trunc -/
noncomputable def math_Trunc_E (N:Nat):Env:=⟨Tryz.prog,N,[],[(0,⟨[],[],[],[],[],[0],[],none⟩),(1,⟨[],[],[],[],[],[0],[],none⟩),(2,⟨[],[],[],[],[],[0],[],none⟩)],kdL [],[math_archTrunc_con N],[],[],[61,89,92,95,99,105,108,112]⟩
def math_Trunc_g (N:Nat) (v1:Nat):Option ((Nat×Unit) ⊕ (Unit×Unit)) :=
  ((math_archTrunc N v1).bind fun v2=>Sum.elim (fun v3=>(some (Sum.inl (v3.1,())))) (fun v4=>(some (Sum.inr ((),())))) v2)
def math_Trunc (N:Nat) (v1:Nat):Option ((Nat×Unit) ⊕ (Unit×Unit)) :=
  math_Trunc_g N v1
set_option maxRecDepth 100000
theorem math_Trunc_t (N:Nat) (v1:Nat):evF2 (math_Trunc_E N) [] Tryz.f74 [.k .float] [⟨[.k .float],[none]⟩,⟨[.nan],[none]⟩] (v1,()) = math_Trunc N v1:=by
  exact (show evF2 (math_Trunc_E N) [] Tryz.f74 [.k .float] [⟨[.k .float],[none]⟩,⟨[.nan],[none]⟩] (v1,()) = math_Trunc_g N v1 from by kernel_rfl).trans (by rfl)
noncomputable def math_Trunc_con (N:Nat):Con2:=⟨74,[.k .float],[⟨[.k .float],[none]⟩,⟨[.nan],[none]⟩],fun x=>math_Trunc N x.1⟩
theorem math_Trunc_s (N:Nat):(math_Trunc_con N).Sound Tryz.prog [] :=
  Con2.sound_of (c:=math_Trunc_con N) (E:=(math_Trunc_E N)) (idle:=[]) Tryz.func74 (by kernel_rfl) (by kernel_rfl) ⟨allNil,(allCons (math_archTrunc_s N) allNil),rfl⟩ allNil (fun x y h=>(math_Trunc_t N x.1).trans h)
/-- pub-orthodrome/laws.wholeTo -/
noncomputable def laws_wholeTo_E (N:Nat):Env:=⟨Tryz.prog,N,[math_Abs_con N],[(0,⟨[],[],[],[],[],[0,1],[],none⟩),(1,⟨[],[],[],[],[],[0,1],[],none⟩),(2,⟨[],[],[],[],[],[0,7,8,9],[],none⟩),(3,⟨[],[],[],[],[],[0,7,8,9],[],none⟩),(4,⟨[],[],[],[],[],[0,6,7,8,9],[],none⟩),(5,⟨[],[],[],[],[],[0,7,8,9,22],[],some N⟩),(6,⟨[],[],[],[],[],[0,7,8,9],[],none⟩),(7,⟨[],[],[],[],[],[],[],none⟩)],kdL [],[math_Trunc_con N],[],[],[61,89,92,95,99,105,108,112]⟩
def laws_wholeTo_g1 (N:Nat) (v1:Nat) (v2:(List Nat)) (v8:Int) (r0:Int→Option (Bool)):Option (Bool) :=
  (some false)
def laws_wholeTo_j1 (N:Nat) (r0:Int→Option (Bool)) (v1:Nat) (v2:(List Nat)) (v8:Int):Option (Bool) :=
  gate N (laws_wholeTo_g1 N v1 v2 v8 r0)
def laws_wholeTo_g0 (N:Nat) (v1:Nat) (v2:(List Nat)) (c1:Int→Option (Bool)) (r0:Int→Option (Bool)) (v8:Int):Option (Bool) :=
  (bif (decide ((v8:Int) < (v2.length:Int))) then ((nth v2 v8).bind fun v9=>((math_Trunc N v9).bind fun v10=>Sum.elim (fun v11=>bif (fne v9 v11.1) then (c1 v8) else ((math_Abs N v9).bind fun v13=>(gate N (bif (fgt v13 v1) then (some false) else ((r0 (IntKind.i64.wrap (v8 + 1)))))))) (fun v12=>(c1 v8)) v10)) else (some true))
def laws_wholeTo_l0 (N:Nat):Nat→Nat→(List Nat)→Int→Option (Bool)
  | 0,_,_,_=>none
  | n + 1,v1,v2,v8=>laws_wholeTo_g0 N v1 v2 (laws_wholeTo_j1 N (laws_wholeTo_l0 N n v1 v2) v1 v2) (laws_wholeTo_l0 N n v1 v2) v8
def laws_wholeTo_g (N:Nat) (v1:Nat) (v2:(List Nat)) (c0:Nat→(List Nat)→Int→Option (Bool)):Option (Bool) :=
  ((c0 v1 v2 0))
def laws_wholeTo (N:Nat) (v1:Nat) (v2:(List Nat)):Option (Bool) :=
  laws_wholeTo_g N v1 v2 (laws_wholeTo_l0 N N)
set_option maxRecDepth 100000
noncomputable def laws_wholeTo_e1 (N:Nat) (m0:Nat) (v1:Nat) (v2:(List Nat)) (v8:Int):Option (HR [.bool]) :=
  gate N (evC (laws_wholeTo_E N) (codeAt (bodyOf Tryz.f60) [1,0,1,0,0,1,1,0,0,1,1]) ⟨[(0,.pv .float v1),(7,.pv (.list .float) v2),(8,.pv (.int .i64) (v2.length:Int)),(9,.pv (.int .i64) v8),(22,.pv .bool true)],[],[]⟩ (kBlock 1 (kSeq (advOf (laws_wholeTo_E N) (codeAt (bodyOf Tryz.f60) [1,0,1,0,0,1,1,1])) (evC (laws_wholeTo_E N) (codeAt (bodyOf Tryz.f60) [1,0,1,0,0,1,1,1])) (kSeq (advOf (laws_wholeTo_E N) (codeAt (bodyOf Tryz.f60) [1,0,1,0,0])) (fun st K=>loopN (advOf (laws_wholeTo_E N) (codeAt (bodyOf Tryz.f60) [1,0,1,0,0])) (evC (laws_wholeTo_E N) (codeAt (bodyOf Tryz.f60) [1,0,1,0,0])) m0 st K) (kBlock 0 (kSeq (advOf (laws_wholeTo_E N) (codeAt (bodyOf Tryz.f60) [1,1])) (evC (laws_wholeTo_E N) (codeAt (bodyOf Tryz.f60) [1,1])) (kEnd (laws_wholeTo_E N) [] Tryz.f60.results.toList [.bool])))))))
noncomputable def laws_wholeTo_e0 (N:Nat) (n:Nat) (v1:Nat) (v2:(List Nat)) (v8:Int):Option (HR [.bool]) :=
  loopN (advOf (laws_wholeTo_E N) (codeAt (bodyOf Tryz.f60) [1,0,1,0,0])) (evC (laws_wholeTo_E N) (codeAt (bodyOf Tryz.f60) [1,0,1,0,0])) n ⟨[(0,.pv .float v1),(7,.pv (.list .float) v2),(8,.pv (.int .i64) (v2.length:Int)),(9,.pv (.int .i64) v8)],[],[]⟩ (kBlock 0 (kSeq (advOf (laws_wholeTo_E N) (codeAt (bodyOf Tryz.f60) [1,1])) (evC (laws_wholeTo_E N) (codeAt (bodyOf Tryz.f60) [1,1])) (kEnd (laws_wholeTo_E N) [] Tryz.f60.results.toList [.bool])))
theorem laws_wholeTo_t1 (N:Nat) (m0:Nat) (v1:Nat) (v2:(List Nat)) (v8:Int):laws_wholeTo_e1 N m0 v1 v2 v8 = laws_wholeTo_j1 N (laws_wholeTo_e0 N m0 v1 v2) v1 v2 v8:=by
  exact (congrArg (gate N) (show evC (laws_wholeTo_E N) (codeAt (bodyOf Tryz.f60) [1,0,1,0,0,1,1,0,0,1,1]) ⟨[(0,.pv .float v1),(7,.pv (.list .float) v2),(8,.pv (.int .i64) (v2.length:Int)),(9,.pv (.int .i64) v8),(22,.pv .bool true)],[],[]⟩ (kBlock 1 (kSeq (advOf (laws_wholeTo_E N) (codeAt (bodyOf Tryz.f60) [1,0,1,0,0,1,1,1])) (evC (laws_wholeTo_E N) (codeAt (bodyOf Tryz.f60) [1,0,1,0,0,1,1,1])) (kSeq (advOf (laws_wholeTo_E N) (codeAt (bodyOf Tryz.f60) [1,0,1,0,0])) (fun st K=>loopN (advOf (laws_wholeTo_E N) (codeAt (bodyOf Tryz.f60) [1,0,1,0,0])) (evC (laws_wholeTo_E N) (codeAt (bodyOf Tryz.f60) [1,0,1,0,0])) m0 st K) (kBlock 0 (kSeq (advOf (laws_wholeTo_E N) (codeAt (bodyOf Tryz.f60) [1,1])) (evC (laws_wholeTo_E N) (codeAt (bodyOf Tryz.f60) [1,1])) (kEnd (laws_wholeTo_E N) [] Tryz.f60.results.toList [.bool])))))) = laws_wholeTo_g1 N v1 v2 v8 (laws_wholeTo_e0 N m0 v1 v2) from by kernel_rfl)).trans (by rfl)
theorem laws_wholeTo_t0 (N:Nat):∀ (n:Nat) (v1:Nat) (v2:(List Nat)) (v8:Int),laws_wholeTo_e0 N n v1 v2 v8 = laws_wholeTo_l0 N n v1 v2 v8
  | 0,_,_,_=>rfl
  | n + 1,v1,v2,v8=>by
    have h1:(laws_wholeTo_e1 N n v1 v2) = (laws_wholeTo_j1 N (laws_wholeTo_e0 N n v1 v2) v1 v2):=by funext v8; exact laws_wholeTo_t1 N n v1 v2 v8
    have h:laws_wholeTo_e0 N n v1 v2 = laws_wholeTo_l0 N n v1 v2:=by funext v8; exact laws_wholeTo_t0 N n v1 v2 v8
    exact (show laws_wholeTo_e0 N (n + 1) v1 v2 v8 = laws_wholeTo_g0 N v1 v2 (laws_wholeTo_e1 N n v1 v2) (laws_wholeTo_e0 N n v1 v2) v8 from by kernel_rfl).trans (by rw [h1,h]; rfl)
theorem laws_wholeTo_t (N:Nat) (v1:Nat) (v2:(List Nat)):evF (laws_wholeTo_E N) [] Tryz.f60 [.k .float,.k (.list .float)] [.bool] (v1,v2,()) = laws_wholeTo N v1 v2:=by
  have h0:(laws_wholeTo_e0 N N) = (laws_wholeTo_l0 N N):=by funext v1 v2 v8; exact laws_wholeTo_t0 N N v1 v2 v8
  exact (show evF (laws_wholeTo_E N) [] Tryz.f60 [.k .float,.k (.list .float)] [.bool] (v1,v2,()) = laws_wholeTo_g N v1 v2 (laws_wholeTo_e0 N N) from by kernel_rfl).trans (by rw [h0]; rfl)
noncomputable def laws_wholeTo_con (N:Nat):Con:=⟨60,[.k .float,.k (.list .float)],[.bool],fun x=>laws_wholeTo N x.1 x.2.1⟩
theorem laws_wholeTo_s (N:Nat):(laws_wholeTo_con N).Sound Tryz.prog [] :=
  Con.sound_of (c:=laws_wholeTo_con N) (E:=(laws_wholeTo_E N)) (idle:=[]) Tryz.func60 (by kernel_rfl) (by kernel_rfl) ⟨(allCons (math_Abs_s N) allNil),(allCons (math_Trunc_s N) allNil),rfl⟩ allNil (fun x y h=>(laws_wholeTo_t N x.1 x.2.1).trans h)
/-- pub-orthodrome/laws.planeTo -/
noncomputable def laws_planeTo_E (N:Nat):Env:=⟨Tryz.prog,N,[laws_wholeTo_con N],[(0,⟨[],[],[],[],[],[0,1],[],none⟩),(1,⟨[],[],[],[],[],[0,1],[],none⟩),(2,⟨[],[],[],[],[],[0,7,8,9],[],none⟩),(3,⟨[],[],[],[],[],[0,7,8,9],[],none⟩),(4,⟨[],[],[],[],[],[0,6,7,8,9],[6],none⟩),(5,⟨[],[],[],[],[],[0,7,8,9,20],[],none⟩),(6,⟨[],[],[],[],[],[0,7,8,9],[],none⟩),(7,⟨[],[],[],[],[],[],[],none⟩)],kdL [(50,.float)],[],[],[],[61,89,92,95,99,105,108,112]⟩
def laws_planeTo_g0 (N:Nat) (v1:Nat) (v2:(List (Nat×(Nat×Unit)))) (r0:Int→Option (Bool)) (v5:Int):Option (Bool) :=
  (bif (decide ((v5:Int) < (v2.length:Int))) then ((nth v2 v5).bind fun v6=>((laws_wholeTo N v1 ([v6.1,v6.2.1]:List Nat)).bind fun v7=>(bif (!v7) then (some false) else ((r0 (IntKind.i64.wrap (v5 + 1))))))) else (some true))
def laws_planeTo_l0 (N:Nat):Nat→Nat→(List (Nat×(Nat×Unit)))→Int→Option (Bool)
  | 0,_,_,_=>none
  | n + 1,v1,v2,v5=>laws_planeTo_g0 N v1 v2 (laws_planeTo_l0 N n v1 v2) v5
def laws_planeTo_g (N:Nat) (v1:Nat) (v2:(List (Nat×(Nat×Unit)))) (c0:Nat→(List (Nat×(Nat×Unit)))→Int→Option (Bool)):Option (Bool) :=
  ((c0 v1 v2 0))
def laws_planeTo (N:Nat) (v1:Nat) (v2:(List (Nat×(Nat×Unit)))):Option (Bool) :=
  laws_planeTo_g N v1 v2 (laws_planeTo_l0 N N)
set_option maxRecDepth 100000
noncomputable def laws_planeTo_e0 (N:Nat) (n:Nat) (v1:Nat) (v2:(List (Nat×(Nat×Unit)))) (v5:Int):Option (HR [.bool]) :=
  loopN (advOf (laws_planeTo_E N) (codeAt (bodyOf Tryz.f23) [1,0,1,0,0])) (evC (laws_planeTo_E N) (codeAt (bodyOf Tryz.f23) [1,0,1,0,0])) n ⟨[(0,.pv .float v1),(7,.pv (.list (.pair .float (.pair .float .unit))) v2),(8,.pv (.int .i64) (v2.length:Int)),(9,.pv (.int .i64) v5)],[],[]⟩ (kBlock 0 (kSeq (advOf (laws_planeTo_E N) (codeAt (bodyOf Tryz.f23) [1,1])) (evC (laws_planeTo_E N) (codeAt (bodyOf Tryz.f23) [1,1])) (kEnd (laws_planeTo_E N) [] Tryz.f23.results.toList [.bool])))
theorem laws_planeTo_t0 (N:Nat):∀ (n:Nat) (v1:Nat) (v2:(List (Nat×(Nat×Unit)))) (v5:Int),laws_planeTo_e0 N n v1 v2 v5 = laws_planeTo_l0 N n v1 v2 v5
  | 0,_,_,_=>rfl
  | n + 1,v1,v2,v5=>by
    have h:laws_planeTo_e0 N n v1 v2 = laws_planeTo_l0 N n v1 v2:=by funext v5; exact laws_planeTo_t0 N n v1 v2 v5
    exact (show laws_planeTo_e0 N (n + 1) v1 v2 v5 = laws_planeTo_g0 N v1 v2 (laws_planeTo_e0 N n v1 v2) v5 from by kernel_rfl).trans (by rw [h]; rfl)
theorem laws_planeTo_t (N:Nat) (v1:Nat) (v2:(List (Nat×(Nat×Unit)))):evF (laws_planeTo_E N) [] Tryz.f23 [.k .float,.k (.list (.pair .float (.pair .float .unit)))] [.bool] (v1,v2,()) = laws_planeTo N v1 v2:=by
  have h0:(laws_planeTo_e0 N N) = (laws_planeTo_l0 N N):=by funext v1 v2 v5; exact laws_planeTo_t0 N N v1 v2 v5
  exact (show evF (laws_planeTo_E N) [] Tryz.f23 [.k .float,.k (.list (.pair .float (.pair .float .unit)))] [.bool] (v1,v2,()) = laws_planeTo_g N v1 v2 (laws_planeTo_e0 N N) from by kernel_rfl).trans (by rw [h0]; rfl)
noncomputable def laws_planeTo_con (N:Nat):Con:=⟨23,[.k .float,.k (.list (.pair .float (.pair .float .unit)))],[.bool],fun x=>laws_planeTo N x.1 x.2.1⟩
theorem laws_planeTo_s (N:Nat):(laws_planeTo_con N).Sound Tryz.prog [] :=
  Con.sound_of (c:=laws_planeTo_con N) (E:=(laws_planeTo_E N)) (idle:=[]) Tryz.func23 (by kernel_rfl) (by kernel_rfl) ⟨(allCons (laws_wholeTo_s N) allNil),allNil,rfl⟩ allNil (fun x y h=>(laws_planeTo_t N x.1 x.2.1).trans h)
/-- pub-orthodrome/laws.flatTo -/
noncomputable def laws_flatTo_E (N:Nat):Env:=⟨Tryz.prog,N,[spec_Stride_con N,laws_planeTo_con N],[(0,⟨[],[],[],[],[],[0,1,2,3],[],none⟩),(1,⟨[],[],[],[],[],[0,1,2,3,8],[],none⟩),(2,⟨[],[],[],[],[],[0,1,2,3,8,17],[],none⟩),(3,⟨[],[],[],[],[],[0,1,2,3,8],[],none⟩),(4,⟨[],[],[],[],[],[1,2,3,8,10],[],none⟩),(5,⟨[],[],[],[],[],[1,2,8,10,32],[],none⟩),(6,⟨[],[],[],[],[],[1,2,8,10],[],none⟩),(7,⟨[(8,72,(.pair .float (.pair .float .unit)),90700)],[],[],[],[],[1,2,8,10,11],[90700],none⟩),(8,⟨[],[],[],[],[],[1,2,8,10,11],[52],none⟩),(9,⟨[],[],[],[],[],[1,2,8,10,11],[90700],none⟩),(10,⟨[],[],[],[],[],[2,8],[90700],none⟩)],kdL [(72,(.pair .float (.pair .float .unit)))],[],[],[],[61,89,92,95,99,105,108,112]⟩
def laws_flatTo_g0 (N:Nat) (v2:(List Nat)) (v3:Nat) (v5:Int) (r0:Int→(List (Nat×(Nat×Unit)))→Option (((List (Nat×(Nat×Unit)))×Bool×Unit))) (v8:Int) (v9:(List (Nat×(Nat×Unit)))):Option (((List (Nat×(Nat×Unit)))×Bool×Unit)) :=
  (bif (decide ((v8:Int) < (v2.length:Int))) then ((nth v2 v8).bind fun v10=>(nth v2 (IntKind.i64.wrap (v8 + 1))).bind fun v11=>(lim ((v9.length + ([(v10,v11,())]:List (Nat×(Nat×Unit))).length) * 16)).bind fun _=>((r0 (IntKind.i64.wrap (v8 + v5)) (v9 ++ ([(v10,v11,())]:List (Nat×(Nat×Unit))))))) else ((laws_planeTo N v3 v9).bind fun v12=>(some (v9,v12,()))))
def laws_flatTo_l0 (N:Nat):Nat→(List Nat)→Nat→Int→Int→(List (Nat×(Nat×Unit)))→Option (((List (Nat×(Nat×Unit)))×Bool×Unit))
  | 0,_,_,_,_,_=>none
  | n + 1,v2,v3,v5,v8,v9=>laws_flatTo_g0 N v2 v3 v5 (laws_flatTo_l0 N n v2 v3 v5) v8 v9
def laws_flatTo_g (N:Nat) (v1:Int) (v2:(List Nat)) (v3:Nat) (v4:Int) (c0:(List Nat)→Nat→Int→Int→(List (Nat×(Nat×Unit)))→Option (((List (Nat×(Nat×Unit)))×Bool×Unit))):Option (((List (Nat×(Nat×Unit)))×Bool×Unit)) :=
  (bif (decide ((v1:Int) < 1)) then (some (([]:List (Nat×(Nat×Unit))),false,())) else (bif (decide ((v1:Int) > 8)) then (some (([]:List (Nat×(Nat×Unit))),false,())) else ((spec_Stride N v1).bind fun v5=>(if v5 = 0 then none else bif ((Int.tmod (v2.length:Int) v5) != 0) then (some (([]:List (Nat×(Nat×Unit))),false,())) else (bif (decide (((v2.length:Int):Int) > (IntKind.i64.wrap (v5 * v4)))) then (some (([]:List (Nat×(Nat×Unit))),false,())) else ((c0 v2 v3 v5 0 ([]:List (Nat×(Nat×Unit))))))))))
def laws_flatTo (N:Nat) (v1:Int) (v2:(List Nat)) (v3:Nat) (v4:Int):Option (((List (Nat×(Nat×Unit)))×Bool×Unit)) :=
  laws_flatTo_g N v1 v2 v3 v4 (laws_flatTo_l0 N N)
set_option maxRecDepth 100000
noncomputable def laws_flatTo_e0 (N:Nat) (n:Nat) (v2:(List Nat)) (v3:Nat) (v5:Int) (v8:Int) (v9:(List (Nat×(Nat×Unit)))):Option (AltD [⟨[.row 72 (.pair .float (.pair .float .unit)),.k .bool],[none,none,none,none]⟩]) :=
  loopN (advOf (laws_flatTo_E N) (codeAt (bodyOf Tryz.f10) [1,1,1,1,0,1,0,0])) (evC (laws_flatTo_E N) (codeAt (bodyOf Tryz.f10) [1,1,1,1,0,1,0,0])) n ⟨[(1,.pv (.list .float) v2),(2,.pv .float v3),(8,.own (.pair .float (.pair .float .unit)) 90700),(10,.pv (.int .i64) v5),(11,.pv (.int .i64) v8)],[(90700,.arr 72 (.pair .float (.pair .float .unit)) v9)],[]⟩ (kBlock 0 (kSeq (advOf (laws_flatTo_E N) (codeAt (bodyOf Tryz.f10) [1,1,1,1,1])) (evC (laws_flatTo_E N) (codeAt (bodyOf Tryz.f10) [1,1,1,1,1])) (kEnd2 (laws_flatTo_E N) [] Tryz.f10.results.toList [⟨[.row 72 (.pair .float (.pair .float .unit)),.k .bool],[none,none,none,none]⟩] [.dead,.dead,.dead,.dead])))
theorem laws_flatTo_t0 (N:Nat):∀ (n:Nat) (v2:(List Nat)) (v3:Nat) (v5:Int) (v8:Int) (v9:(List (Nat×(Nat×Unit)))),laws_flatTo_e0 N n v2 v3 v5 v8 v9 = laws_flatTo_l0 N n v2 v3 v5 v8 v9
  | 0,_,_,_,_,_=>rfl
  | n + 1,v2,v3,v5,v8,v9=>by
    have h:laws_flatTo_e0 N n v2 v3 v5 = laws_flatTo_l0 N n v2 v3 v5:=by funext v8 v9; exact laws_flatTo_t0 N n v2 v3 v5 v8 v9
    exact (show laws_flatTo_e0 N (n + 1) v2 v3 v5 v8 v9 = laws_flatTo_g0 N v2 v3 v5 (laws_flatTo_e0 N n v2 v3 v5) v8 v9 from by kernel_rfl).trans (by rw [h]; rfl)
theorem laws_flatTo_t (N:Nat) (v1:Int) (v2:(List Nat)) (v3:Nat) (v4:Int):evF2 (laws_flatTo_E N) [] Tryz.f10 [.k (.int .i64),.k (.list .float),.k .float,.k (.int .i64)] [⟨[.row 72 (.pair .float (.pair .float .unit)),.k .bool],[none,none,none,none]⟩] (v1,v2,v3,v4,()) = laws_flatTo N v1 v2 v3 v4:=by
  have h0:(laws_flatTo_e0 N N) = (laws_flatTo_l0 N N):=by funext v2 v3 v5 v8 v9; exact laws_flatTo_t0 N N v2 v3 v5 v8 v9
  exact (show evF2 (laws_flatTo_E N) [] Tryz.f10 [.k (.int .i64),.k (.list .float),.k .float,.k (.int .i64)] [⟨[.row 72 (.pair .float (.pair .float .unit)),.k .bool],[none,none,none,none]⟩] (v1,v2,v3,v4,()) = laws_flatTo_g N v1 v2 v3 v4 (laws_flatTo_e0 N N) from by kernel_rfl).trans (by rw [h0]; rfl)
noncomputable def laws_flatTo_con (N:Nat):Con2:=⟨10,[.k (.int .i64),.k (.list .float),.k .float,.k (.int .i64)],[⟨[.row 72 (.pair .float (.pair .float .unit)),.k .bool],[none,none,none,none]⟩],fun x=>laws_flatTo N x.1 x.2.1 x.2.2.1 x.2.2.2.1⟩
theorem laws_flatTo_s (N:Nat):(laws_flatTo_con N).Sound Tryz.prog [] :=
  Con2.sound_of (c:=laws_flatTo_con N) (E:=(laws_flatTo_E N)) (idle:=[]) Tryz.func10 (by kernel_rfl) (by kernel_rfl) ⟨(allCons (spec_Stride_s N) (allCons (laws_planeTo_s N) allNil)),allNil,rfl⟩ allNil (fun x y h=>(laws_flatTo_t N x.1 x.2.1 x.2.2.1 x.2.2.2.1).trans h)
/-- pub-orthodrome/spec.PointOf -/
noncomputable def spec_PointOf_E (N:Nat):Env:=⟨Tryz.prog,N,[spec_DyadicOf_con N],[(0,⟨[],[],[],[],[],[0,1],[],none⟩),(1,⟨[],[],[],[],[],[0,1,4],[4],none⟩)],kdL [],[],[],[],[61,89,92,95,99,105,108,112]⟩
def spec_PointOf_g (N:Nat) (v1:Nat) (v2:Nat):Option ((((Bool×((List Int)×Unit))×(Int×Unit))×(((Bool×((List Int)×Unit))×(Int×Unit))×Unit))) :=
  ((spec_DyadicOf N v1).bind fun v3=>(spec_DyadicOf N v2).bind fun v4=>(some (((v3.1.1,v3.1.2.1,()),v3.2.1,()),((v4.1.1,v4.1.2.1,()),v4.2.1,()),())))
def spec_PointOf (N:Nat) (v1:Nat) (v2:Nat):Option ((((Bool×((List Int)×Unit))×(Int×Unit))×(((Bool×((List Int)×Unit))×(Int×Unit))×Unit))) :=
  spec_PointOf_g N v1 v2
set_option maxRecDepth 100000
theorem spec_PointOf_t (N:Nat) (v1:Nat) (v2:Nat):evF (spec_PointOf_E N) [] Tryz.f61 [.k .float,.k .float] [(.pair KD (.pair KD .unit))] (v1,v2,()) = spec_PointOf N v1 v2:=by
  exact (show evF (spec_PointOf_E N) [] Tryz.f61 [.k .float,.k .float] [(.pair KD (.pair KD .unit))] (v1,v2,()) = spec_PointOf_g N v1 v2 from by kernel_rfl).trans (by rfl)
noncomputable def spec_PointOf_con (N:Nat):Con:=⟨61,[.k .float,.k .float],[(.pair KD (.pair KD .unit))],fun x=>spec_PointOf N x.1 x.2.1⟩
theorem spec_PointOf_s (N:Nat):(spec_PointOf_con N).Sound Tryz.prog [] :=
  Con.sound_of (c:=spec_PointOf_con N) (E:=(spec_PointOf_E N)) (idle:=[]) Tryz.func61 (by kernel_rfl) (by kernel_rfl) ⟨(allCons (spec_DyadicOf_s N) allNil),allNil,rfl⟩ allNil (fun x y h=>(spec_PointOf_t N x.1 x.2.1).trans h)
/-- pub-orthodrome/spec.Places -/
noncomputable def spec_Places_E (N:Nat):Env:=⟨Tryz.prog,N,[spec_PointOf_con N],[(0,⟨[],[],[],[],[],[0,1],[],none⟩),(1,⟨[],[],[],[],[],[0,1],[],none⟩),(2,⟨[],[],[],[],[],[0,1,5],[],none⟩),(3,⟨[(5,53,(.pair KD (.pair KD .unit)),90300)],[],[],[],[],[0,1,5,6],[90300],none⟩),(4,⟨[],[],[],[],[],[0,1,5,6],[32],none⟩),(5,⟨[],[],[],[],[],[0,1,5,6],[90300],none⟩),(6,⟨[],[],[],[],[],[5],[90300],some N⟩)],kdL [(53,(.pair KD (.pair KD .unit)))],[],[],[],[61,89,92,95,99,105,108,112]⟩
def spec_Places_g1 (N:Nat) (v7:(List (((Bool×((List Int)×Unit))×(Int×Unit))×(((Bool×((List Int)×Unit))×(Int×Unit))×Unit)))):Option (((List (((Bool×((List Int)×Unit))×(Int×Unit))×(((Bool×((List Int)×Unit))×(Int×Unit))×Unit)))×Unit)) :=
  (some (v7,()))
def spec_Places_j1 (N:Nat) (v7:(List (((Bool×((List Int)×Unit))×(Int×Unit))×(((Bool×((List Int)×Unit))×(Int×Unit))×Unit)))):Option (((List (((Bool×((List Int)×Unit))×(Int×Unit))×(((Bool×((List Int)×Unit))×(Int×Unit))×Unit)))×Unit)) :=
  gate N (spec_Places_g1 N v7)
def spec_Places_g0 (N:Nat) (v1:(List Nat)) (v2:Int) (c1:(List (((Bool×((List Int)×Unit))×(Int×Unit))×(((Bool×((List Int)×Unit))×(Int×Unit))×Unit)))→Option (((List (((Bool×((List Int)×Unit))×(Int×Unit))×(((Bool×((List Int)×Unit))×(Int×Unit))×Unit)))×Unit))) (r0:Int→(List (((Bool×((List Int)×Unit))×(Int×Unit))×(((Bool×((List Int)×Unit))×(Int×Unit))×Unit)))→Option (((List (((Bool×((List Int)×Unit))×(Int×Unit))×(((Bool×((List Int)×Unit))×(Int×Unit))×Unit)))×Unit))) (v6:Int) (v7:(List (((Bool×((List Int)×Unit))×(Int×Unit))×(((Bool×((List Int)×Unit))×(Int×Unit))×Unit)))):Option (((List (((Bool×((List Int)×Unit))×(Int×Unit))×(((Bool×((List Int)×Unit))×(Int×Unit))×Unit)))×Unit)) :=
  bif (decide ((v2:Int) > 1)) then (bif (decide (((IntKind.i64.wrap (v6 + v2)):Int) ≤ (v1.length:Int))) then ((nth v1 v6).bind fun v8=>(nth v1 (IntKind.i64.wrap (v6 + 1))).bind fun v9=>(spec_PointOf N v8 v9).bind fun v10=>(lim ((v7.length + ([v10]:List (((Bool×((List Int)×Unit))×(Int×Unit))×(((Bool×((List Int)×Unit))×(Int×Unit))×Unit))).length) * 80)).bind fun _=>((r0 (IntKind.i64.wrap (v6 + v2)) (v7 ++ ([v10]:List (((Bool×((List Int)×Unit))×(Int×Unit))×(((Bool×((List Int)×Unit))×(Int×Unit))×Unit))))))) else (c1 v7)) else (c1 v7)
def spec_Places_l0 (N:Nat):Nat→(List Nat)→Int→Int→(List (((Bool×((List Int)×Unit))×(Int×Unit))×(((Bool×((List Int)×Unit))×(Int×Unit))×Unit)))→Option (((List (((Bool×((List Int)×Unit))×(Int×Unit))×(((Bool×((List Int)×Unit))×(Int×Unit))×Unit)))×Unit))
  | 0,_,_,_,_=>none
  | n + 1,v1,v2,v6,v7=>spec_Places_g0 N v1 v2 (spec_Places_j1 N) (spec_Places_l0 N n v1 v2) v6 v7
def spec_Places_g (N:Nat) (v1:(List Nat)) (v2:Int) (c0:(List Nat)→Int→Int→(List (((Bool×((List Int)×Unit))×(Int×Unit))×(((Bool×((List Int)×Unit))×(Int×Unit))×Unit)))→Option (((List (((Bool×((List Int)×Unit))×(Int×Unit))×(((Bool×((List Int)×Unit))×(Int×Unit))×Unit)))×Unit))):Option (((List (((Bool×((List Int)×Unit))×(Int×Unit))×(((Bool×((List Int)×Unit))×(Int×Unit))×Unit)))×Unit)) :=
  ((c0 v1 v2 0 ([]:List (((Bool×((List Int)×Unit))×(Int×Unit))×(((Bool×((List Int)×Unit))×(Int×Unit))×Unit)))))
def spec_Places (N:Nat) (v1:(List Nat)) (v2:Int):Option (((List (((Bool×((List Int)×Unit))×(Int×Unit))×(((Bool×((List Int)×Unit))×(Int×Unit))×Unit)))×Unit)) :=
  spec_Places_g N v1 v2 (spec_Places_l0 N N)
set_option maxRecDepth 100000
noncomputable def spec_Places_e1 (N:Nat) (v7:(List (((Bool×((List Int)×Unit))×(Int×Unit))×(((Bool×((List Int)×Unit))×(Int×Unit))×Unit)))):Option (AltD [⟨[.row 53 (.pair KD (.pair KD .unit))],[none,none]⟩]) :=
  gate N (evC (spec_Places_E N) (codeAt (bodyOf Tryz.f24) [1,1,1]) ⟨[(5,.own (.pair KD (.pair KD .unit)) 90300)],[(90300,.arr 53 (.pair KD (.pair KD .unit)) v7)],[]⟩ (kEnd2 (spec_Places_E N) [] Tryz.f24.results.toList [⟨[.row 53 (.pair KD (.pair KD .unit))],[none,none]⟩] [.dead,.dead]))
noncomputable def spec_Places_e0 (N:Nat) (n:Nat) (v1:(List Nat)) (v2:Int) (v6:Int) (v7:(List (((Bool×((List Int)×Unit))×(Int×Unit))×(((Bool×((List Int)×Unit))×(Int×Unit))×Unit)))):Option (AltD [⟨[.row 53 (.pair KD (.pair KD .unit))],[none,none]⟩]) :=
  loopN (advOf (spec_Places_E N) (codeAt (bodyOf Tryz.f24) [1,1,0,1,0,0])) (evC (spec_Places_E N) (codeAt (bodyOf Tryz.f24) [1,1,0,1,0,0])) n ⟨[(0,.pv (.list .float) v1),(1,.pv (.int .i64) v2),(5,.own (.pair KD (.pair KD .unit)) 90300),(6,.pv (.int .i64) v6)],[(90300,.arr 53 (.pair KD (.pair KD .unit)) v7)],[]⟩ (kBlock 0 (kSeq (advOf (spec_Places_E N) (codeAt (bodyOf Tryz.f24) [1,1,1])) (evC (spec_Places_E N) (codeAt (bodyOf Tryz.f24) [1,1,1])) (kEnd2 (spec_Places_E N) [] Tryz.f24.results.toList [⟨[.row 53 (.pair KD (.pair KD .unit))],[none,none]⟩] [.dead,.dead])))
theorem spec_Places_t1 (N:Nat) (v7:(List (((Bool×((List Int)×Unit))×(Int×Unit))×(((Bool×((List Int)×Unit))×(Int×Unit))×Unit)))):spec_Places_e1 N v7 = spec_Places_j1 N v7:=by
  exact (congrArg (gate N) (show evC (spec_Places_E N) (codeAt (bodyOf Tryz.f24) [1,1,1]) ⟨[(5,.own (.pair KD (.pair KD .unit)) 90300)],[(90300,.arr 53 (.pair KD (.pair KD .unit)) v7)],[]⟩ (kEnd2 (spec_Places_E N) [] Tryz.f24.results.toList [⟨[.row 53 (.pair KD (.pair KD .unit))],[none,none]⟩] [.dead,.dead]) = spec_Places_g1 N v7 from by kernel_rfl)).trans (by rfl)
theorem spec_Places_t0 (N:Nat):∀ (n:Nat) (v1:(List Nat)) (v2:Int) (v6:Int) (v7:(List (((Bool×((List Int)×Unit))×(Int×Unit))×(((Bool×((List Int)×Unit))×(Int×Unit))×Unit)))),spec_Places_e0 N n v1 v2 v6 v7 = spec_Places_l0 N n v1 v2 v6 v7
  | 0,_,_,_,_=>rfl
  | n + 1,v1,v2,v6,v7=>by
    have h1:(spec_Places_e1 N) = (spec_Places_j1 N):=by funext v7; exact spec_Places_t1 N v7
    have h:spec_Places_e0 N n v1 v2 = spec_Places_l0 N n v1 v2:=by funext v6 v7; exact spec_Places_t0 N n v1 v2 v6 v7
    exact (show spec_Places_e0 N (n + 1) v1 v2 v6 v7 = spec_Places_g0 N v1 v2 (spec_Places_e1 N) (spec_Places_e0 N n v1 v2) v6 v7 from by kernel_rfl).trans (by rw [h1,h]; rfl)
theorem spec_Places_t (N:Nat) (v1:(List Nat)) (v2:Int):evF2 (spec_Places_E N) [] Tryz.f24 [.k (.list .float),.k (.int .i64)] [⟨[.row 53 (.pair KD (.pair KD .unit))],[none,none]⟩] (v1,v2,()) = spec_Places N v1 v2:=by
  have h0:(spec_Places_e0 N N) = (spec_Places_l0 N N):=by funext v1 v2 v6 v7; exact spec_Places_t0 N N v1 v2 v6 v7
  exact (show evF2 (spec_Places_E N) [] Tryz.f24 [.k (.list .float),.k (.int .i64)] [⟨[.row 53 (.pair KD (.pair KD .unit))],[none,none]⟩] (v1,v2,()) = spec_Places_g N v1 v2 (spec_Places_e0 N N) from by kernel_rfl).trans (by rw [h0]; rfl)
noncomputable def spec_Places_con (N:Nat):Con2:=⟨24,[.k (.list .float),.k (.int .i64)],[⟨[.row 53 (.pair KD (.pair KD .unit))],[none,none]⟩],fun x=>spec_Places N x.1 x.2.1⟩
theorem spec_Places_s (N:Nat):(spec_Places_con N).Sound Tryz.prog [] :=
  Con2.sound_of (c:=spec_Places_con N) (E:=(spec_Places_E N)) (idle:=[]) Tryz.func24 (by kernel_rfl) (by kernel_rfl) ⟨(allCons (spec_PointOf_s N) allNil),allNil,rfl⟩ allNil (fun x y h=>(spec_Places_t N x.1 x.2.1).trans h)
/-- pub-orthodrome/spec.Lines -/
noncomputable def spec_Lines_E (N:Nat):Env:=⟨Tryz.prog,N,[],[(0,⟨[],[],[],[],[],[0,1,2],[],none⟩),(1,⟨[],[],[],[],[],[0,1,2],[],none⟩),(2,⟨[],[],[],[],[],[0,1,2,7],[],none⟩),(3,⟨[],[],[],[],[],[0,1,2,7,8],[],none⟩),(4,⟨[(7,26,(.list (.pair KD (.pair KD .unit))),90400)],[],[],[],[],[0,2,7,8,11,12,13],[90400],none⟩),(5,⟨[],[],[],[],[],[0,2,7,8,11,12,13],[90400],none⟩),(6,⟨[],[],[],[],[],[0,2,7,8,10,11,12,13],[90400],none⟩),(7,⟨[],[],[],[],[],[0,2,7,8,10,11,12,13,25],[90400],none⟩),(8,⟨[],[],[],[],[],[0,2,7,8,10,11,12,13],[34,90400],some N⟩),(9,⟨[],[],[],[],[],[0,2,7,8,11,12,13],[34,90400],none⟩),(10,⟨[],[],[],[],[],[7],[90400],none⟩)],kdL [(26,(.list (.pair KD (.pair KD .unit))))],[spec_Places_con N],[],[],[61,89,92,95,99,105,108,112]⟩
def spec_Lines_g1 (N:Nat) (v1:(List Nat)) (v3:Int) (v2:(List Int)) (v7:Int) (v10:Int) (v8:Int) (v9:(List (List (((Bool×((List Int)×Unit))×(Int×Unit))×(((Bool×((List Int)×Unit))×(Int×Unit))×Unit))))) (r0:Int→Int→(List (List (((Bool×((List Int)×Unit))×(Int×Unit))×(((Bool×((List Int)×Unit))×(Int×Unit))×Unit))))→Option (((List (List (((Bool×((List Int)×Unit))×(Int×Unit))×(((Bool×((List Int)×Unit))×(Int×Unit))×Unit))))×Unit))):Option (((List (List (((Bool×((List Int)×Unit))×(Int×Unit))×(((Bool×((List Int)×Unit))×(Int×Unit))×Unit))))×Unit)) :=
  ((r0 (imm true v7 v10) (IntKind.i64.wrap (v8 + 1)) v9))
def spec_Lines_j1 (N:Nat) (r0:Int→Int→(List (List (((Bool×((List Int)×Unit))×(Int×Unit))×(((Bool×((List Int)×Unit))×(Int×Unit))×Unit))))→Option (((List (List (((Bool×((List Int)×Unit))×(Int×Unit))×(((Bool×((List Int)×Unit))×(Int×Unit))×Unit))))×Unit))) (v1:(List Nat)) (v3:Int) (v2:(List Int)) (v7:Int) (v10:Int) (v8:Int) (v9:(List (List (((Bool×((List Int)×Unit))×(Int×Unit))×(((Bool×((List Int)×Unit))×(Int×Unit))×Unit))))):Option (((List (List (((Bool×((List Int)×Unit))×(Int×Unit))×(((Bool×((List Int)×Unit))×(Int×Unit))×Unit))))×Unit)) :=
  gate N (spec_Lines_g1 N v1 v3 v2 v7 v10 v8 v9 r0)
def spec_Lines_g0 (N:Nat) (v1:(List Nat)) (v3:Int) (v2:(List Int)) (c1:Int→Int→Int→(List (List (((Bool×((List Int)×Unit))×(Int×Unit))×(((Bool×((List Int)×Unit))×(Int×Unit))×Unit))))→Option (((List (List (((Bool×((List Int)×Unit))×(Int×Unit))×(((Bool×((List Int)×Unit))×(Int×Unit))×Unit))))×Unit))) (r0:Int→Int→(List (List (((Bool×((List Int)×Unit))×(Int×Unit))×(((Bool×((List Int)×Unit))×(Int×Unit))×Unit))))→Option (((List (List (((Bool×((List Int)×Unit))×(Int×Unit))×(((Bool×((List Int)×Unit))×(Int×Unit))×Unit))))×Unit))) (v7:Int) (v8:Int) (v9:(List (List (((Bool×((List Int)×Unit))×(Int×Unit))×(((Bool×((List Int)×Unit))×(Int×Unit))×Unit))))):Option (((List (List (((Bool×((List Int)×Unit))×(Int×Unit))×(((Bool×((List Int)×Unit))×(Int×Unit))×Unit))))×Unit)) :=
  (bif (decide ((v8:Int) < (v2.length:Int))) then ((nth v2 v8).bind fun v10=>(bif (decide ((v7:Int) ≤ v10)) then (bif (decide ((v10:Int) ≤ (v1.length:Int))) then ((chk2 v7 v10 v1.length).bind fun v11=>(spec_Places N ((v1.drop v11.1).take (v11.2 - v11.1)) v3).bind fun v12=>(lim ((v9.length + ([v12.1]:List (List (((Bool×((List Int)×Unit))×(Int×Unit))×(((Bool×((List Int)×Unit))×(Int×Unit))×Unit)))).length) * 24)).bind fun _=>(gate N ((r0 (imm true v7 v10) (IntKind.i64.wrap (v8 + 1)) (v9 ++ ([v12.1]:List (List (((Bool×((List Int)×Unit))×(Int×Unit))×(((Bool×((List Int)×Unit))×(Int×Unit))×Unit))))))))) else (c1 v7 v10 v8 v9)) else (c1 v7 v10 v8 v9))) else (some (v9,())))
def spec_Lines_l0 (N:Nat):Nat→(List Nat)→Int→(List Int)→Int→Int→(List (List (((Bool×((List Int)×Unit))×(Int×Unit))×(((Bool×((List Int)×Unit))×(Int×Unit))×Unit))))→Option (((List (List (((Bool×((List Int)×Unit))×(Int×Unit))×(((Bool×((List Int)×Unit))×(Int×Unit))×Unit))))×Unit))
  | 0,_,_,_,_,_,_=>none
  | n + 1,v1,v3,v2,v7,v8,v9=>spec_Lines_g0 N v1 v3 v2 (spec_Lines_j1 N (spec_Lines_l0 N n v1 v3 v2) v1 v3 v2) (spec_Lines_l0 N n v1 v3 v2) v7 v8 v9
def spec_Lines_g (N:Nat) (v1:(List Nat)) (v2:(List Int)) (v3:Int) (c0:(List Nat)→Int→(List Int)→Int→Int→(List (List (((Bool×((List Int)×Unit))×(Int×Unit))×(((Bool×((List Int)×Unit))×(Int×Unit))×Unit))))→Option (((List (List (((Bool×((List Int)×Unit))×(Int×Unit))×(((Bool×((List Int)×Unit))×(Int×Unit))×Unit))))×Unit))):Option (((List (List (((Bool×((List Int)×Unit))×(Int×Unit))×(((Bool×((List Int)×Unit))×(Int×Unit))×Unit))))×Unit)) :=
  ((c0 v1 v3 v2 0 0 ([]:List (List (((Bool×((List Int)×Unit))×(Int×Unit))×(((Bool×((List Int)×Unit))×(Int×Unit))×Unit))))))
def spec_Lines (N:Nat) (v1:(List Nat)) (v2:(List Int)) (v3:Int):Option (((List (List (((Bool×((List Int)×Unit))×(Int×Unit))×(((Bool×((List Int)×Unit))×(Int×Unit))×Unit))))×Unit)) :=
  spec_Lines_g N v1 v2 v3 (spec_Lines_l0 N N)
set_option maxRecDepth 100000
noncomputable def spec_Lines_e1 (N:Nat) (m0:Nat) (v1:(List Nat)) (v3:Int) (v2:(List Int)) (v7:Int) (v10:Int) (v8:Int) (v9:(List (List (((Bool×((List Int)×Unit))×(Int×Unit))×(((Bool×((List Int)×Unit))×(Int×Unit))×Unit))))):Option (AltD [⟨[.row 26 (.list (.pair KD (.pair KD .unit)))],[none,none,none]⟩]) :=
  gate N (evC (spec_Lines_E N) (codeAt (bodyOf Tryz.f11) [1,1,1,0,1,0,0,1,1,0,0,1,1]) ⟨[(0,.pv (.list .float) v1),(2,.pv (.int .i64) v3),(7,.own (.list (.pair KD (.pair KD .unit))) 90400),(8,.pv (.int .i64) v7),(10,.pv (.int .i64) v10),(11,.pv (.list (.int .i64)) v2),(12,.pv (.int .i64) (v2.length:Int)),(13,.pv (.int .i64) v8)],[(34,.gone),(90400,.arr 26 (.list (.pair KD (.pair KD .unit))) v9)],[]⟩ (kBlock 1 (kSeq (advOf (spec_Lines_E N) (codeAt (bodyOf Tryz.f11) [1,1,1,0,1,0,0,1,1,1])) (evC (spec_Lines_E N) (codeAt (bodyOf Tryz.f11) [1,1,1,0,1,0,0,1,1,1])) (kSeq (advOf (spec_Lines_E N) (codeAt (bodyOf Tryz.f11) [1,1,1,0,1,0,0])) (fun st K=>loopN (advOf (spec_Lines_E N) (codeAt (bodyOf Tryz.f11) [1,1,1,0,1,0,0])) (evC (spec_Lines_E N) (codeAt (bodyOf Tryz.f11) [1,1,1,0,1,0,0])) m0 st K) (kBlock 0 (kSeq (advOf (spec_Lines_E N) (codeAt (bodyOf Tryz.f11) [1,1,1,1])) (evC (spec_Lines_E N) (codeAt (bodyOf Tryz.f11) [1,1,1,1])) (kEnd2 (spec_Lines_E N) [] Tryz.f11.results.toList [⟨[.row 26 (.list (.pair KD (.pair KD .unit)))],[none,none,none]⟩] [.dead,.dead,.dead])))))))
noncomputable def spec_Lines_e0 (N:Nat) (n:Nat) (v1:(List Nat)) (v3:Int) (v2:(List Int)) (v7:Int) (v8:Int) (v9:(List (List (((Bool×((List Int)×Unit))×(Int×Unit))×(((Bool×((List Int)×Unit))×(Int×Unit))×Unit))))):Option (AltD [⟨[.row 26 (.list (.pair KD (.pair KD .unit)))],[none,none,none]⟩]) :=
  loopN (advOf (spec_Lines_E N) (codeAt (bodyOf Tryz.f11) [1,1,1,0,1,0,0])) (evC (spec_Lines_E N) (codeAt (bodyOf Tryz.f11) [1,1,1,0,1,0,0])) n ⟨[(0,.pv (.list .float) v1),(2,.pv (.int .i64) v3),(7,.own (.list (.pair KD (.pair KD .unit))) 90400),(8,.pv (.int .i64) v7),(11,.pv (.list (.int .i64)) v2),(12,.pv (.int .i64) (v2.length:Int)),(13,.pv (.int .i64) v8)],[(90400,.arr 26 (.list (.pair KD (.pair KD .unit))) v9)],[]⟩ (kBlock 0 (kSeq (advOf (spec_Lines_E N) (codeAt (bodyOf Tryz.f11) [1,1,1,1])) (evC (spec_Lines_E N) (codeAt (bodyOf Tryz.f11) [1,1,1,1])) (kEnd2 (spec_Lines_E N) [] Tryz.f11.results.toList [⟨[.row 26 (.list (.pair KD (.pair KD .unit)))],[none,none,none]⟩] [.dead,.dead,.dead])))
theorem spec_Lines_t1 (N:Nat) (m0:Nat) (v1:(List Nat)) (v3:Int) (v2:(List Int)) (v7:Int) (v10:Int) (v8:Int) (v9:(List (List (((Bool×((List Int)×Unit))×(Int×Unit))×(((Bool×((List Int)×Unit))×(Int×Unit))×Unit))))):spec_Lines_e1 N m0 v1 v3 v2 v7 v10 v8 v9 = spec_Lines_j1 N (spec_Lines_e0 N m0 v1 v3 v2) v1 v3 v2 v7 v10 v8 v9:=by
  exact (congrArg (gate N) (show evC (spec_Lines_E N) (codeAt (bodyOf Tryz.f11) [1,1,1,0,1,0,0,1,1,0,0,1,1]) ⟨[(0,.pv (.list .float) v1),(2,.pv (.int .i64) v3),(7,.own (.list (.pair KD (.pair KD .unit))) 90400),(8,.pv (.int .i64) v7),(10,.pv (.int .i64) v10),(11,.pv (.list (.int .i64)) v2),(12,.pv (.int .i64) (v2.length:Int)),(13,.pv (.int .i64) v8)],[(34,.gone),(90400,.arr 26 (.list (.pair KD (.pair KD .unit))) v9)],[]⟩ (kBlock 1 (kSeq (advOf (spec_Lines_E N) (codeAt (bodyOf Tryz.f11) [1,1,1,0,1,0,0,1,1,1])) (evC (spec_Lines_E N) (codeAt (bodyOf Tryz.f11) [1,1,1,0,1,0,0,1,1,1])) (kSeq (advOf (spec_Lines_E N) (codeAt (bodyOf Tryz.f11) [1,1,1,0,1,0,0])) (fun st K=>loopN (advOf (spec_Lines_E N) (codeAt (bodyOf Tryz.f11) [1,1,1,0,1,0,0])) (evC (spec_Lines_E N) (codeAt (bodyOf Tryz.f11) [1,1,1,0,1,0,0])) m0 st K) (kBlock 0 (kSeq (advOf (spec_Lines_E N) (codeAt (bodyOf Tryz.f11) [1,1,1,1])) (evC (spec_Lines_E N) (codeAt (bodyOf Tryz.f11) [1,1,1,1])) (kEnd2 (spec_Lines_E N) [] Tryz.f11.results.toList [⟨[.row 26 (.list (.pair KD (.pair KD .unit)))],[none,none,none]⟩] [.dead,.dead,.dead])))))) = spec_Lines_g1 N v1 v3 v2 v7 v10 v8 v9 (spec_Lines_e0 N m0 v1 v3 v2) from by kernel_rfl)).trans (by rfl)
theorem spec_Lines_t0 (N:Nat):∀ (n:Nat) (v1:(List Nat)) (v3:Int) (v2:(List Int)) (v7:Int) (v8:Int) (v9:(List (List (((Bool×((List Int)×Unit))×(Int×Unit))×(((Bool×((List Int)×Unit))×(Int×Unit))×Unit))))),spec_Lines_e0 N n v1 v3 v2 v7 v8 v9 = spec_Lines_l0 N n v1 v3 v2 v7 v8 v9
  | 0,_,_,_,_,_,_=>rfl
  | n + 1,v1,v3,v2,v7,v8,v9=>by
    have h1:(spec_Lines_e1 N n v1 v3 v2) = (spec_Lines_j1 N (spec_Lines_e0 N n v1 v3 v2) v1 v3 v2):=by funext v7 v10 v8 v9; exact spec_Lines_t1 N n v1 v3 v2 v7 v10 v8 v9
    have h:spec_Lines_e0 N n v1 v3 v2 = spec_Lines_l0 N n v1 v3 v2:=by funext v7 v8 v9; exact spec_Lines_t0 N n v1 v3 v2 v7 v8 v9
    exact (show spec_Lines_e0 N (n + 1) v1 v3 v2 v7 v8 v9 = spec_Lines_g0 N v1 v3 v2 (spec_Lines_e1 N n v1 v3 v2) (spec_Lines_e0 N n v1 v3 v2) v7 v8 v9 from by kernel_rfl).trans (by rw [h1,h]; rfl)
theorem spec_Lines_t (N:Nat) (v1:(List Nat)) (v2:(List Int)) (v3:Int):evF2 (spec_Lines_E N) [] Tryz.f11 [.k (.list .float),.k (.list (.int .i64)),.k (.int .i64)] [⟨[.row 26 (.list (.pair KD (.pair KD .unit)))],[none,none,none]⟩] (v1,v2,v3,()) = spec_Lines N v1 v2 v3:=by
  have h0:(spec_Lines_e0 N N) = (spec_Lines_l0 N N):=by funext v1 v3 v2 v7 v8 v9; exact spec_Lines_t0 N N v1 v3 v2 v7 v8 v9
  exact (show evF2 (spec_Lines_E N) [] Tryz.f11 [.k (.list .float),.k (.list (.int .i64)),.k (.int .i64)] [⟨[.row 26 (.list (.pair KD (.pair KD .unit)))],[none,none,none]⟩] (v1,v2,v3,()) = spec_Lines_g N v1 v2 v3 (spec_Lines_e0 N N) from by kernel_rfl).trans (by rw [h0]; rfl)
noncomputable def spec_Lines_con (N:Nat):Con2:=⟨11,[.k (.list .float),.k (.list (.int .i64)),.k (.int .i64)],[⟨[.row 26 (.list (.pair KD (.pair KD .unit)))],[none,none,none]⟩],fun x=>spec_Lines N x.1 x.2.1 x.2.2.1⟩
theorem spec_Lines_s (N:Nat):(spec_Lines_con N).Sound Tryz.prog [] :=
  Con2.sound_of (c:=spec_Lines_con N) (E:=(spec_Lines_E N)) (idle:=[]) Tryz.func11 (by kernel_rfl) (by kernel_rfl) ⟨allNil,(allCons (spec_Places_s N) allNil),rfl⟩ allNil (fun x y h=>(spec_Lines_t N x.1 x.2.1 x.2.2.1).trans h)
/-- pub-orthodrome/laws.kindred -/
noncomputable def laws_kindred_E (N:Nat):Env:=⟨Tryz.prog,N,[spec_Stride_con N,spec_Good_con N],[(0,⟨[],[],[],[],[],[0,1,2],[],none⟩),(1,⟨[],[],[],[],[],[0,1,2,6],[],none⟩),(2,⟨[],[],[],[],[],[0,1,2,6,25],[],some N⟩),(3,⟨[],[],[],[],[],[0,1,2,6],[],none⟩),(4,⟨[],[],[],[],[],[0,1,2,6,8,9],[],none⟩),(5,⟨[(6,26,(.list (.pair KD (.pair KD .unit))),90500)],[],[],[],[],[0,1,6,8,9,28,29,30],[90500],none⟩),(6,⟨[],[],[],[],[],[0,1,6,8,9,28,29,30],[90500],none⟩),(7,⟨[],[],[],[],[],[0,1,6,8,9,11,28,29,30],[11,90500],none⟩),(8,⟨[],[],[],[],[],[0,1,6,8,9,11,28,29,30,54],[11,90500],some N⟩),(9,⟨[],[],[],[],[],[0,1,6,8,9,11,28,29,30],[11,90500],none⟩),(10,⟨[],[],[],[],[],[0,1,6,8,9,11,13,28,29,30],[11,90500],none⟩),(11,⟨[],[],[],[],[],[0,1,6,8,9,11,28,29,30,63],[11,90500],none⟩),(12,⟨[],[],[],[],[],[0,1,6,8,9,11,28,29,30],[11,90500],none⟩),(13,⟨[],[],[],[],[],[0,1,6,8,9,11,28,29,30],[11,90500],none⟩),(14,⟨[],[],[],[],[],[0,1,6,8,9,11,14,28,29,30],[11,90500],none⟩),(15,⟨[],[],[],[],[],[0,1,6,8,9,11,14,28,29,30,82],[11,90500],some N⟩),(16,⟨[],[],[],[],[],[0,1,6,8,9,11,14,28,29,30],[11,86,90500],some N⟩),(17,⟨[],[],[],[],[],[0,1,6,8,9,28,29,30],[93],some N⟩),(18,⟨[],[],[],[],[],[6,9],[90500],none⟩)],kdL [(3,(.int .i64)),(26,(.list (.pair KD (.pair KD .unit))))],[laws_flatTo_con N,spec_Lines_con N],[],[],[61,89,92,95,99,105,108,112]⟩
def laws_kindred_g0 (N:Nat) (v1:Int) (v2:Int) (v3:(List Geo)):Option (((List (List (((Bool×((List Int)×Unit))×(Int×Unit))×(((Bool×((List Int)×Unit))×(Int×Unit))×Unit))))×Bool×Unit)) :=
  (some (([]:List (List (((Bool×((List Int)×Unit))×(Int×Unit))×(((Bool×((List Int)×Unit))×(Int×Unit))×Unit)))),false,()))
def laws_kindred_j0 (N:Nat) (v1:Int) (v2:Int) (v3:(List Geo)):Option (((List (List (((Bool×((List Int)×Unit))×(Int×Unit))×(((Bool×((List Int)×Unit))×(Int×Unit))×Unit))))×Bool×Unit)) :=
  gate N (laws_kindred_g0 N v1 v2 v3)
def laws_kindred_g2 (N:Nat) (v1:Int) (v2:Int) (v4:Int) (v3:(List Geo)) (v11:Int) (v12:Int) (v14:Geo) (v13:(List (List (((Bool×((List Int)×Unit))×(Int×Unit))×(((Bool×((List Int)×Unit))×(Int×Unit))×Unit))))) (r1:Int→Int→(List (List (((Bool×((List Int)×Unit))×(Int×Unit))×(((Bool×((List Int)×Unit))×(Int×Unit))×Unit))))→Option (((List (List (((Bool×((List Int)×Unit))×(Int×Unit))×(((Bool×((List Int)×Unit))×(Int×Unit))×Unit))))×Bool×Unit))):Option (((List (List (((Bool×((List Int)×Unit))×(Int×Unit))×(((Bool×((List Int)×Unit))×(Int×Unit))×Unit))))×Bool×Unit)) :=
  (some (([]:List (List (((Bool×((List Int)×Unit))×(Int×Unit))×(((Bool×((List Int)×Unit))×(Int×Unit))×Unit)))),false,()))
def laws_kindred_j2 (N:Nat) (r1:Int→Int→(List (List (((Bool×((List Int)×Unit))×(Int×Unit))×(((Bool×((List Int)×Unit))×(Int×Unit))×Unit))))→Option (((List (List (((Bool×((List Int)×Unit))×(Int×Unit))×(((Bool×((List Int)×Unit))×(Int×Unit))×Unit))))×Bool×Unit))) (v1:Int) (v2:Int) (v4:Int) (v3:(List Geo)) (v11:Int) (v12:Int) (v14:Geo) (v13:(List (List (((Bool×((List Int)×Unit))×(Int×Unit))×(((Bool×((List Int)×Unit))×(Int×Unit))×Unit))))):Option (((List (List (((Bool×((List Int)×Unit))×(Int×Unit))×(((Bool×((List Int)×Unit))×(Int×Unit))×Unit))))×Bool×Unit)) :=
  gate N (laws_kindred_g2 N v1 v2 v4 v3 v11 v12 v14 v13 r1)
def laws_kindred_g5 (N:Nat) (v1:Int) (v2:Int) (v4:Int) (v3:(List Geo)) (v11:Int) (v14:Geo) (v12:Int) (r1:Int→Int→(List (List (((Bool×((List Int)×Unit))×(Int×Unit))×(((Bool×((List Int)×Unit))×(Int×Unit))×Unit))))→Option (((List (List (((Bool×((List Int)×Unit))×(Int×Unit))×(((Bool×((List Int)×Unit))×(Int×Unit))×Unit))))×Bool×Unit))) (v19:(List (List (((Bool×((List Int)×Unit))×(Int×Unit))×(((Bool×((List Int)×Unit))×(Int×Unit))×Unit))))):Option (((List (List (((Bool×((List Int)×Unit))×(Int×Unit))×(((Bool×((List Int)×Unit))×(Int×Unit))×Unit))))×Bool×Unit)) :=
  (r1 (IntKind.i64.wrap (v11 + (IntKind.i64.wrap (Int.tdiv (v14.flat.length:Int) v4)))) (IntKind.i64.wrap (v12 + 1)) v19)
def laws_kindred_j5 (N:Nat) (r1:Int→Int→(List (List (((Bool×((List Int)×Unit))×(Int×Unit))×(((Bool×((List Int)×Unit))×(Int×Unit))×Unit))))→Option (((List (List (((Bool×((List Int)×Unit))×(Int×Unit))×(((Bool×((List Int)×Unit))×(Int×Unit))×Unit))))×Bool×Unit))) (v1:Int) (v2:Int) (v4:Int) (v3:(List Geo)) (v11:Int) (v14:Geo) (v12:Int) (v19:(List (List (((Bool×((List Int)×Unit))×(Int×Unit))×(((Bool×((List Int)×Unit))×(Int×Unit))×Unit))))):Option (((List (List (((Bool×((List Int)×Unit))×(Int×Unit))×(((Bool×((List Int)×Unit))×(Int×Unit))×Unit))))×Bool×Unit)) :=
  gate N (laws_kindred_g5 N v1 v2 v4 v3 v11 v14 v12 r1 v19)
def laws_kindred_g4 (N:Nat) (v1:Int) (v2:Int) (v4:Int) (v3:(List Geo)) (v11:Int) (v14:Geo) (v12:Int) (v13:(List (List (((Bool×((List Int)×Unit))×(Int×Unit))×(((Bool×((List Int)×Unit))×(Int×Unit))×Unit))))) (c5:Int→Geo→Int→(List (List (((Bool×((List Int)×Unit))×(Int×Unit))×(((Bool×((List Int)×Unit))×(Int×Unit))×Unit))))→Option (((List (List (((Bool×((List Int)×Unit))×(Int×Unit))×(((Bool×((List Int)×Unit))×(Int×Unit))×Unit))))×Bool×Unit))) (r1:Int→Int→(List (List (((Bool×((List Int)×Unit))×(Int×Unit))×(((Bool×((List Int)×Unit))×(Int×Unit))×Unit))))→Option (((List (List (((Bool×((List Int)×Unit))×(Int×Unit))×(((Bool×((List Int)×Unit))×(Int×Unit))×Unit))))×Bool×Unit))):Option (((List (List (((Bool×((List Int)×Unit))×(Int×Unit))×(((Bool×((List Int)×Unit))×(Int×Unit))×Unit))))×Bool×Unit)) :=
  (spec_Lines N v14.flat ([(v14.flat.length:Int)]:List Int) v4).bind fun v17=>(lim ((v13.length + v17.1.length) * 24)).bind fun _=>(c5 v11 v14 v12 (v13 ++ v17.1))
def laws_kindred_j4 (N:Nat) (r1:Int→Int→(List (List (((Bool×((List Int)×Unit))×(Int×Unit))×(((Bool×((List Int)×Unit))×(Int×Unit))×Unit))))→Option (((List (List (((Bool×((List Int)×Unit))×(Int×Unit))×(((Bool×((List Int)×Unit))×(Int×Unit))×Unit))))×Bool×Unit))) (v1:Int) (v2:Int) (v4:Int) (v3:(List Geo)) (v11:Int) (v14:Geo) (v12:Int) (v13:(List (List (((Bool×((List Int)×Unit))×(Int×Unit))×(((Bool×((List Int)×Unit))×(Int×Unit))×Unit))))):Option (((List (List (((Bool×((List Int)×Unit))×(Int×Unit))×(((Bool×((List Int)×Unit))×(Int×Unit))×Unit))))×Bool×Unit)) :=
  gate N (laws_kindred_g4 N v1 v2 v4 v3 v11 v14 v12 v13 (laws_kindred_j5 N r1 v1 v2 v4 v3) r1)
def laws_kindred_g3 (N:Nat) (v1:Int) (v2:Int) (v4:Int) (v3:(List Geo)) (v11:Int) (v14:Geo) (v12:Int) (v13:(List (List (((Bool×((List Int)×Unit))×(Int×Unit))×(((Bool×((List Int)×Unit))×(Int×Unit))×Unit))))) (c4:Int→Geo→Int→(List (List (((Bool×((List Int)×Unit))×(Int×Unit))×(((Bool×((List Int)×Unit))×(Int×Unit))×Unit))))→Option (((List (List (((Bool×((List Int)×Unit))×(Int×Unit))×(((Bool×((List Int)×Unit))×(Int×Unit))×Unit))))×Bool×Unit))) (r1:Int→Int→(List (List (((Bool×((List Int)×Unit))×(Int×Unit))×(((Bool×((List Int)×Unit))×(Int×Unit))×Unit))))→Option (((List (List (((Bool×((List Int)×Unit))×(Int×Unit))×(((Bool×((List Int)×Unit))×(Int×Unit))×Unit))))×Bool×Unit))):Option (((List (List (((Bool×((List Int)×Unit))×(Int×Unit))×(((Bool×((List Int)×Unit))×(Int×Unit))×Unit))))×Bool×Unit)) :=
  (c4 v11 v14 v12 v13)
def laws_kindred_j3 (N:Nat) (r1:Int→Int→(List (List (((Bool×((List Int)×Unit))×(Int×Unit))×(((Bool×((List Int)×Unit))×(Int×Unit))×Unit))))→Option (((List (List (((Bool×((List Int)×Unit))×(Int×Unit))×(((Bool×((List Int)×Unit))×(Int×Unit))×Unit))))×Bool×Unit))) (v1:Int) (v2:Int) (v4:Int) (v3:(List Geo)) (v11:Int) (v14:Geo) (v12:Int) (v13:(List (List (((Bool×((List Int)×Unit))×(Int×Unit))×(((Bool×((List Int)×Unit))×(Int×Unit))×Unit))))):Option (((List (List (((Bool×((List Int)×Unit))×(Int×Unit))×(((Bool×((List Int)×Unit))×(Int×Unit))×Unit))))×Bool×Unit)) :=
  gate N (laws_kindred_g3 N v1 v2 v4 v3 v11 v14 v12 v13 (laws_kindred_j4 N r1 v1 v2 v4 v3) r1)
def laws_kindred_g1 (N:Nat) (v1:Int) (v2:Int) (v4:Int) (v3:(List Geo)) (c2:Int→Int→Geo→(List (List (((Bool×((List Int)×Unit))×(Int×Unit))×(((Bool×((List Int)×Unit))×(Int×Unit))×Unit))))→Option (((List (List (((Bool×((List Int)×Unit))×(Int×Unit))×(((Bool×((List Int)×Unit))×(Int×Unit))×Unit))))×Bool×Unit))) (c3:Int→Geo→Int→(List (List (((Bool×((List Int)×Unit))×(Int×Unit))×(((Bool×((List Int)×Unit))×(Int×Unit))×Unit))))→Option (((List (List (((Bool×((List Int)×Unit))×(Int×Unit))×(((Bool×((List Int)×Unit))×(Int×Unit))×Unit))))×Bool×Unit))) (c4:Int→Geo→Int→(List (List (((Bool×((List Int)×Unit))×(Int×Unit))×(((Bool×((List Int)×Unit))×(Int×Unit))×Unit))))→Option (((List (List (((Bool×((List Int)×Unit))×(Int×Unit))×(((Bool×((List Int)×Unit))×(Int×Unit))×Unit))))×Bool×Unit))) (c5:Int→Geo→Int→(List (List (((Bool×((List Int)×Unit))×(Int×Unit))×(((Bool×((List Int)×Unit))×(Int×Unit))×Unit))))→Option (((List (List (((Bool×((List Int)×Unit))×(Int×Unit))×(((Bool×((List Int)×Unit))×(Int×Unit))×Unit))))×Bool×Unit))) (r1:Int→Int→(List (List (((Bool×((List Int)×Unit))×(Int×Unit))×(((Bool×((List Int)×Unit))×(Int×Unit))×Unit))))→Option (((List (List (((Bool×((List Int)×Unit))×(Int×Unit))×(((Bool×((List Int)×Unit))×(Int×Unit))×Unit))))×Bool×Unit))) (v11:Int) (v12:Int) (v13:(List (List (((Bool×((List Int)×Unit))×(Int×Unit))×(((Bool×((List Int)×Unit))×(Int×Unit))×Unit))))):Option (((List (List (((Bool×((List Int)×Unit))×(Int×Unit))×(((Bool×((List Int)×Unit))×(Int×Unit))×Unit))))×Bool×Unit)) :=
  (bif (decide ((v12:Int) < (v3.length:Int))) then ((nth v3 v12).bind fun v14=>(bif (v14.kind != v1) then (c2 v11 v12 v14 v13) else (bif (v14.layout != v2) then (c2 v11 v12 v14 v13) else ((spec_Good N N (Geo.mk v14.kind v14.layout v14.srid v14.flat v14.ends v14.endss v14.kids)).bind fun v15=>bif (!v15) then (c2 v11 v12 v14 v13) else (gate N (bif ((v14.flat.length:Int) == 0) then (some (([]:List (List (((Bool×((List Int)×Unit))×(Int×Unit))×(((Bool×((List Int)×Unit))×(Int×Unit))×Unit)))),false,())) else ((laws_flatTo N v2 v14.flat 4634204016564240384 100).bind fun v16=>(bif (!v16.2.1) then (some (([]:List (List (((Bool×((List Int)×Unit))×(Int×Unit))×(((Bool×((List Int)×Unit))×(Int×Unit))×Unit)))),false,())) else (if v4 = 0 then none else (bif (v1 == 2) then (c3 v11 v14 v12 v13) else (bif (v1 == 8) then (c3 v11 v14 v12 v13) else (gate N (bif (v1 == 1) then (c4 v11 v14 v12 v13) else (gate N ((spec_Lines N v14.flat v14.ends v4).bind fun v18=>(lim ((v13.length + v18.1.length) * 24)).bind fun _=>(c5 v11 v14 v12 (v13 ++ v18.1))))))))))))))))) else (some (v13,(decide ((v11:Int) ≤ 100)),())))
def laws_kindred_l1 (N:Nat):Nat→Int→Int→Int→(List Geo)→Int→Int→(List (List (((Bool×((List Int)×Unit))×(Int×Unit))×(((Bool×((List Int)×Unit))×(Int×Unit))×Unit))))→Option (((List (List (((Bool×((List Int)×Unit))×(Int×Unit))×(((Bool×((List Int)×Unit))×(Int×Unit))×Unit))))×Bool×Unit))
  | 0,_,_,_,_,_,_,_=>none
  | n + 1,v1,v2,v4,v3,v11,v12,v13=>laws_kindred_g1 N v1 v2 v4 v3 (laws_kindred_j2 N (laws_kindred_l1 N n v1 v2 v4 v3) v1 v2 v4 v3) (laws_kindred_j3 N (laws_kindred_l1 N n v1 v2 v4 v3) v1 v2 v4 v3) (laws_kindred_j4 N (laws_kindred_l1 N n v1 v2 v4 v3) v1 v2 v4 v3) (laws_kindred_j5 N (laws_kindred_l1 N n v1 v2 v4 v3) v1 v2 v4 v3) (laws_kindred_l1 N n v1 v2 v4 v3) v11 v12 v13
def laws_kindred_g (N:Nat) (v1:Int) (v2:Int) (v3:(List Geo)) (c0:Int→Int→(List Geo)→Option (((List (List (((Bool×((List Int)×Unit))×(Int×Unit))×(((Bool×((List Int)×Unit))×(Int×Unit))×Unit))))×Bool×Unit))) (c1:Int→Int→Int→(List Geo)→Int→Int→(List (List (((Bool×((List Int)×Unit))×(Int×Unit))×(((Bool×((List Int)×Unit))×(Int×Unit))×Unit))))→Option (((List (List (((Bool×((List Int)×Unit))×(Int×Unit))×(((Bool×((List Int)×Unit))×(Int×Unit))×Unit))))×Bool×Unit))):Option (((List (List (((Bool×((List Int)×Unit))×(Int×Unit))×(((Bool×((List Int)×Unit))×(Int×Unit))×Unit))))×Bool×Unit)) :=
  (bif (decide ((v2:Int) < 1)) then (c0 v1 v2 v3) else (bif (decide ((v2:Int) > 8)) then (c0 v1 v2 v3) else (gate N (bif (decide (((v3.length:Int):Int) > 20)) then (some (([]:List (List (((Bool×((List Int)×Unit))×(Int×Unit))×(((Bool×((List Int)×Unit))×(Int×Unit))×Unit)))),false,())) else ((spec_Stride N v2).bind fun v4=>((c1 v1 v2 v4 v3 0 0 ([]:List (List (((Bool×((List Int)×Unit))×(Int×Unit))×(((Bool×((List Int)×Unit))×(Int×Unit))×Unit)))))))))))
def laws_kindred (N:Nat) (v1:Int) (v2:Int) (v3:(List Geo)):Option (((List (List (((Bool×((List Int)×Unit))×(Int×Unit))×(((Bool×((List Int)×Unit))×(Int×Unit))×Unit))))×Bool×Unit)) :=
  laws_kindred_g N v1 v2 v3 (laws_kindred_j0 N) (laws_kindred_l1 N N)
set_option maxRecDepth 100000
noncomputable def laws_kindred_e0 (N:Nat) (v1:Int) (v2:Int) (v3:(List Geo)):Option (AltD [⟨[.row 26 (.list (.pair KD (.pair KD .unit))),.k .bool],[none,none,none]⟩]) :=
  gate N (evC (laws_kindred_E N) (codeAt (bodyOf Tryz.f4) [1,0,1]) ⟨[(0,.pv (.int .i64) v1),(1,.pv (.int .i64) v2),(2,.pv (.list .geo) v3),(6,.nils),(25,.pv .bool true)],[],[]⟩ (kSeq (advOf (laws_kindred_E N) (codeAt (bodyOf Tryz.f4) [1,1])) (evC (laws_kindred_E N) (codeAt (bodyOf Tryz.f4) [1,1])) (kEnd2 (laws_kindred_E N) [] Tryz.f4.results.toList [⟨[.row 26 (.list (.pair KD (.pair KD .unit))),.k .bool],[none,none,none]⟩] [.dead,.dead,.dead])))
noncomputable def laws_kindred_e2 (N:Nat) (m1:Nat) (v1:Int) (v2:Int) (v4:Int) (v3:(List Geo)) (v11:Int) (v12:Int) (v14:Geo) (v13:(List (List (((Bool×((List Int)×Unit))×(Int×Unit))×(((Bool×((List Int)×Unit))×(Int×Unit))×Unit))))):Option (AltD [⟨[.row 26 (.list (.pair KD (.pair KD .unit))),.k .bool],[none,none,none]⟩]) :=
  gate N (evC (laws_kindred_E N) (codeAt (bodyOf Tryz.f4) [1,1,1,0,1,0,0,1,1,0,0,1,0,1]) ⟨[(0,.pv (.int .i64) v1),(1,.pv (.int .i64) v2),(6,.own (.list (.pair KD (.pair KD .unit))) 90500),(8,.pv (.int .i64) v4),(9,.pv (.int .i64) v11),(11,.ref 11 0),(28,.pv (.list .geo) v3),(29,.pv (.int .i64) (v3.length:Int)),(30,.pv (.int .i64) v12),(54,.pv .bool true)],[(11,.box [.pv (.int .i64) v14.kind,.pv (.int .i64) v14.layout,.pv (.int .i64) v14.srid,.pv (.list .float) v14.flat,.pv (.list (.int .i64)) v14.ends,.pv (.list (.list (.int .i64))) v14.endss,.pv (.list .geo) v14.kids]),(90500,.arr 26 (.list (.pair KD (.pair KD .unit))) v13)],[]⟩ (kSeq (advOf (laws_kindred_E N) (codeAt (bodyOf Tryz.f4) [1,1,1,0,1,0,0,1,1,0,0,1,1])) (evC (laws_kindred_E N) (codeAt (bodyOf Tryz.f4) [1,1,1,0,1,0,0,1,1,0,0,1,1])) (kBlock 1 (kSeq (advOf (laws_kindred_E N) (codeAt (bodyOf Tryz.f4) [1,1,1,0,1,0,0,1,1,1])) (evC (laws_kindred_E N) (codeAt (bodyOf Tryz.f4) [1,1,1,0,1,0,0,1,1,1])) (kSeq (advOf (laws_kindred_E N) (codeAt (bodyOf Tryz.f4) [1,1,1,0,1,0,0])) (fun st K=>loopN (advOf (laws_kindred_E N) (codeAt (bodyOf Tryz.f4) [1,1,1,0,1,0,0])) (evC (laws_kindred_E N) (codeAt (bodyOf Tryz.f4) [1,1,1,0,1,0,0])) m1 st K) (kBlock 0 (kSeq (advOf (laws_kindred_E N) (codeAt (bodyOf Tryz.f4) [1,1,1,1])) (evC (laws_kindred_E N) (codeAt (bodyOf Tryz.f4) [1,1,1,1])) (kEnd2 (laws_kindred_E N) [] Tryz.f4.results.toList [⟨[.row 26 (.list (.pair KD (.pair KD .unit))),.k .bool],[none,none,none]⟩] [.dead,.dead,.dead]))))))))
noncomputable def laws_kindred_e5 (N:Nat) (m1:Nat) (v1:Int) (v2:Int) (v4:Int) (v3:(List Geo)) (v11:Int) (v14:Geo) (v12:Int) (v19:(List (List (((Bool×((List Int)×Unit))×(Int×Unit))×(((Bool×((List Int)×Unit))×(Int×Unit))×Unit))))):Option (AltD [⟨[.row 26 (.list (.pair KD (.pair KD .unit))),.k .bool],[none,none,none]⟩]) :=
  gate N (evC (laws_kindred_E N) (codeAt (bodyOf Tryz.f4) [1,1,1,0,1,0,0,1,1,1]) ⟨[(0,.pv (.int .i64) v1),(1,.pv (.int .i64) v2),(6,.own (.list (.pair KD (.pair KD .unit))) 93),(8,.pv (.int .i64) v4),(9,.pv (.int .i64) (IntKind.i64.wrap (v11 + (IntKind.i64.wrap (Int.tdiv (v14.flat.length:Int) v4))))),(28,.pv (.list .geo) v3),(29,.pv (.int .i64) (v3.length:Int)),(30,.pv (.int .i64) v12)],[(93,.arr 26 (.list (.pair KD (.pair KD .unit))) v19)],[]⟩ (kSeq (advOf (laws_kindred_E N) (codeAt (bodyOf Tryz.f4) [1,1,1,0,1,0,0])) (fun st K=>loopN (advOf (laws_kindred_E N) (codeAt (bodyOf Tryz.f4) [1,1,1,0,1,0,0])) (evC (laws_kindred_E N) (codeAt (bodyOf Tryz.f4) [1,1,1,0,1,0,0])) m1 st K) (kBlock 0 (kSeq (advOf (laws_kindred_E N) (codeAt (bodyOf Tryz.f4) [1,1,1,1])) (evC (laws_kindred_E N) (codeAt (bodyOf Tryz.f4) [1,1,1,1])) (kEnd2 (laws_kindred_E N) [] Tryz.f4.results.toList [⟨[.row 26 (.list (.pair KD (.pair KD .unit))),.k .bool],[none,none,none]⟩] [.dead,.dead,.dead])))))
noncomputable def laws_kindred_e4 (N:Nat) (m1:Nat) (v1:Int) (v2:Int) (v4:Int) (v3:(List Geo)) (v11:Int) (v14:Geo) (v12:Int) (v13:(List (List (((Bool×((List Int)×Unit))×(Int×Unit))×(((Bool×((List Int)×Unit))×(Int×Unit))×Unit))))):Option (AltD [⟨[.row 26 (.list (.pair KD (.pair KD .unit))),.k .bool],[none,none,none]⟩]) :=
  gate N (evC (laws_kindred_E N) (codeAt (bodyOf Tryz.f4) [1,1,1,0,1,0,0,1,1,0,0,1,1,1,1,1,1]) ⟨[(0,.pv (.int .i64) v1),(1,.pv (.int .i64) v2),(6,.own (.list (.pair KD (.pair KD .unit))) 90500),(8,.pv (.int .i64) v4),(9,.pv (.int .i64) (IntKind.i64.wrap (v11 + (IntKind.i64.wrap (Int.tdiv (v14.flat.length:Int) v4))))),(11,.ref 11 0),(14,.own (.int .i64) 86),(28,.pv (.list .geo) v3),(29,.pv (.int .i64) (v3.length:Int)),(30,.pv (.int .i64) v12)],[(11,.box [.pv (.int .i64) v14.kind,.pv (.int .i64) v14.layout,.pv (.int .i64) v14.srid,.pv (.list .float) v14.flat,.pv (.list (.int .i64)) v14.ends,.pv (.list (.list (.int .i64))) v14.endss,.pv (.list .geo) v14.kids]),(86,.arr 3 (.int .i64) ([(v14.flat.length:Int)]:List Int)),(90500,.arr 26 (.list (.pair KD (.pair KD .unit))) v13)],[]⟩ (kBlock 1 (kSeq (advOf (laws_kindred_E N) (codeAt (bodyOf Tryz.f4) [1,1,1,0,1,0,0,1,1,1])) (evC (laws_kindred_E N) (codeAt (bodyOf Tryz.f4) [1,1,1,0,1,0,0,1,1,1])) (kSeq (advOf (laws_kindred_E N) (codeAt (bodyOf Tryz.f4) [1,1,1,0,1,0,0])) (fun st K=>loopN (advOf (laws_kindred_E N) (codeAt (bodyOf Tryz.f4) [1,1,1,0,1,0,0])) (evC (laws_kindred_E N) (codeAt (bodyOf Tryz.f4) [1,1,1,0,1,0,0])) m1 st K) (kBlock 0 (kSeq (advOf (laws_kindred_E N) (codeAt (bodyOf Tryz.f4) [1,1,1,1])) (evC (laws_kindred_E N) (codeAt (bodyOf Tryz.f4) [1,1,1,1])) (kEnd2 (laws_kindred_E N) [] Tryz.f4.results.toList [⟨[.row 26 (.list (.pair KD (.pair KD .unit))),.k .bool],[none,none,none]⟩] [.dead,.dead,.dead])))))))
noncomputable def laws_kindred_e3 (N:Nat) (m1:Nat) (v1:Int) (v2:Int) (v4:Int) (v3:(List Geo)) (v11:Int) (v14:Geo) (v12:Int) (v13:(List (List (((Bool×((List Int)×Unit))×(Int×Unit))×(((Bool×((List Int)×Unit))×(Int×Unit))×Unit))))):Option (AltD [⟨[.row 26 (.list (.pair KD (.pair KD .unit))),.k .bool],[none,none,none]⟩]) :=
  gate N (evC (laws_kindred_E N) (codeAt (bodyOf Tryz.f4) [1,1,1,0,1,0,0,1,1,0,0,1,1,1,1,1,0,1]) ⟨[(0,.pv (.int .i64) v1),(1,.pv (.int .i64) v2),(6,.own (.list (.pair KD (.pair KD .unit))) 90500),(8,.pv (.int .i64) v4),(9,.pv (.int .i64) (IntKind.i64.wrap (v11 + (IntKind.i64.wrap (Int.tdiv (v14.flat.length:Int) v4))))),(11,.ref 11 0),(14,.pv (.list (.int .i64)) v14.ends),(28,.pv (.list .geo) v3),(29,.pv (.int .i64) (v3.length:Int)),(30,.pv (.int .i64) v12),(82,.pv .bool true)],[(11,.box [.pv (.int .i64) v14.kind,.pv (.int .i64) v14.layout,.pv (.int .i64) v14.srid,.pv (.list .float) v14.flat,.pv (.list (.int .i64)) v14.ends,.pv (.list (.list (.int .i64))) v14.endss,.pv (.list .geo) v14.kids]),(90500,.arr 26 (.list (.pair KD (.pair KD .unit))) v13)],[]⟩ (kSeq (advOf (laws_kindred_E N) (codeAt (bodyOf Tryz.f4) [1,1,1,0,1,0,0,1,1,0,0,1,1,1,1,1,1])) (evC (laws_kindred_E N) (codeAt (bodyOf Tryz.f4) [1,1,1,0,1,0,0,1,1,0,0,1,1,1,1,1,1])) (kBlock 1 (kSeq (advOf (laws_kindred_E N) (codeAt (bodyOf Tryz.f4) [1,1,1,0,1,0,0,1,1,1])) (evC (laws_kindred_E N) (codeAt (bodyOf Tryz.f4) [1,1,1,0,1,0,0,1,1,1])) (kSeq (advOf (laws_kindred_E N) (codeAt (bodyOf Tryz.f4) [1,1,1,0,1,0,0])) (fun st K=>loopN (advOf (laws_kindred_E N) (codeAt (bodyOf Tryz.f4) [1,1,1,0,1,0,0])) (evC (laws_kindred_E N) (codeAt (bodyOf Tryz.f4) [1,1,1,0,1,0,0])) m1 st K) (kBlock 0 (kSeq (advOf (laws_kindred_E N) (codeAt (bodyOf Tryz.f4) [1,1,1,1])) (evC (laws_kindred_E N) (codeAt (bodyOf Tryz.f4) [1,1,1,1])) (kEnd2 (laws_kindred_E N) [] Tryz.f4.results.toList [⟨[.row 26 (.list (.pair KD (.pair KD .unit))),.k .bool],[none,none,none]⟩] [.dead,.dead,.dead]))))))))
noncomputable def laws_kindred_e1 (N:Nat) (n:Nat) (v1:Int) (v2:Int) (v4:Int) (v3:(List Geo)) (v11:Int) (v12:Int) (v13:(List (List (((Bool×((List Int)×Unit))×(Int×Unit))×(((Bool×((List Int)×Unit))×(Int×Unit))×Unit))))):Option (AltD [⟨[.row 26 (.list (.pair KD (.pair KD .unit))),.k .bool],[none,none,none]⟩]) :=
  loopN (advOf (laws_kindred_E N) (codeAt (bodyOf Tryz.f4) [1,1,1,0,1,0,0])) (evC (laws_kindred_E N) (codeAt (bodyOf Tryz.f4) [1,1,1,0,1,0,0])) n ⟨[(0,.pv (.int .i64) v1),(1,.pv (.int .i64) v2),(6,.own (.list (.pair KD (.pair KD .unit))) 90500),(8,.pv (.int .i64) v4),(9,.pv (.int .i64) v11),(28,.pv (.list .geo) v3),(29,.pv (.int .i64) (v3.length:Int)),(30,.pv (.int .i64) v12)],[(90500,.arr 26 (.list (.pair KD (.pair KD .unit))) v13)],[]⟩ (kBlock 0 (kSeq (advOf (laws_kindred_E N) (codeAt (bodyOf Tryz.f4) [1,1,1,1])) (evC (laws_kindred_E N) (codeAt (bodyOf Tryz.f4) [1,1,1,1])) (kEnd2 (laws_kindred_E N) [] Tryz.f4.results.toList [⟨[.row 26 (.list (.pair KD (.pair KD .unit))),.k .bool],[none,none,none]⟩] [.dead,.dead,.dead])))
theorem laws_kindred_t0 (N:Nat) (v1:Int) (v2:Int) (v3:(List Geo)):laws_kindred_e0 N v1 v2 v3 = laws_kindred_j0 N v1 v2 v3:=by
  exact (congrArg (gate N) (show evC (laws_kindred_E N) (codeAt (bodyOf Tryz.f4) [1,0,1]) ⟨[(0,.pv (.int .i64) v1),(1,.pv (.int .i64) v2),(2,.pv (.list .geo) v3),(6,.nils),(25,.pv .bool true)],[],[]⟩ (kSeq (advOf (laws_kindred_E N) (codeAt (bodyOf Tryz.f4) [1,1])) (evC (laws_kindred_E N) (codeAt (bodyOf Tryz.f4) [1,1])) (kEnd2 (laws_kindred_E N) [] Tryz.f4.results.toList [⟨[.row 26 (.list (.pair KD (.pair KD .unit))),.k .bool],[none,none,none]⟩] [.dead,.dead,.dead])) = laws_kindred_g0 N v1 v2 v3 from by kernel_rfl)).trans (by rfl)
theorem laws_kindred_t2 (N:Nat) (m1:Nat) (v1:Int) (v2:Int) (v4:Int) (v3:(List Geo)) (v11:Int) (v12:Int) (v14:Geo) (v13:(List (List (((Bool×((List Int)×Unit))×(Int×Unit))×(((Bool×((List Int)×Unit))×(Int×Unit))×Unit))))):laws_kindred_e2 N m1 v1 v2 v4 v3 v11 v12 v14 v13 = laws_kindred_j2 N (laws_kindred_e1 N m1 v1 v2 v4 v3) v1 v2 v4 v3 v11 v12 v14 v13:=by
  exact (congrArg (gate N) (show evC (laws_kindred_E N) (codeAt (bodyOf Tryz.f4) [1,1,1,0,1,0,0,1,1,0,0,1,0,1]) ⟨[(0,.pv (.int .i64) v1),(1,.pv (.int .i64) v2),(6,.own (.list (.pair KD (.pair KD .unit))) 90500),(8,.pv (.int .i64) v4),(9,.pv (.int .i64) v11),(11,.ref 11 0),(28,.pv (.list .geo) v3),(29,.pv (.int .i64) (v3.length:Int)),(30,.pv (.int .i64) v12),(54,.pv .bool true)],[(11,.box [.pv (.int .i64) v14.kind,.pv (.int .i64) v14.layout,.pv (.int .i64) v14.srid,.pv (.list .float) v14.flat,.pv (.list (.int .i64)) v14.ends,.pv (.list (.list (.int .i64))) v14.endss,.pv (.list .geo) v14.kids]),(90500,.arr 26 (.list (.pair KD (.pair KD .unit))) v13)],[]⟩ (kSeq (advOf (laws_kindred_E N) (codeAt (bodyOf Tryz.f4) [1,1,1,0,1,0,0,1,1,0,0,1,1])) (evC (laws_kindred_E N) (codeAt (bodyOf Tryz.f4) [1,1,1,0,1,0,0,1,1,0,0,1,1])) (kBlock 1 (kSeq (advOf (laws_kindred_E N) (codeAt (bodyOf Tryz.f4) [1,1,1,0,1,0,0,1,1,1])) (evC (laws_kindred_E N) (codeAt (bodyOf Tryz.f4) [1,1,1,0,1,0,0,1,1,1])) (kSeq (advOf (laws_kindred_E N) (codeAt (bodyOf Tryz.f4) [1,1,1,0,1,0,0])) (fun st K=>loopN (advOf (laws_kindred_E N) (codeAt (bodyOf Tryz.f4) [1,1,1,0,1,0,0])) (evC (laws_kindred_E N) (codeAt (bodyOf Tryz.f4) [1,1,1,0,1,0,0])) m1 st K) (kBlock 0 (kSeq (advOf (laws_kindred_E N) (codeAt (bodyOf Tryz.f4) [1,1,1,1])) (evC (laws_kindred_E N) (codeAt (bodyOf Tryz.f4) [1,1,1,1])) (kEnd2 (laws_kindred_E N) [] Tryz.f4.results.toList [⟨[.row 26 (.list (.pair KD (.pair KD .unit))),.k .bool],[none,none,none]⟩] [.dead,.dead,.dead]))))))) = laws_kindred_g2 N v1 v2 v4 v3 v11 v12 v14 v13 (laws_kindred_e1 N m1 v1 v2 v4 v3) from by kernel_rfl)).trans (by rfl)
theorem laws_kindred_t5 (N:Nat) (m1:Nat) (v1:Int) (v2:Int) (v4:Int) (v3:(List Geo)) (v11:Int) (v14:Geo) (v12:Int) (v19:(List (List (((Bool×((List Int)×Unit))×(Int×Unit))×(((Bool×((List Int)×Unit))×(Int×Unit))×Unit))))):laws_kindred_e5 N m1 v1 v2 v4 v3 v11 v14 v12 v19 = laws_kindred_j5 N (laws_kindred_e1 N m1 v1 v2 v4 v3) v1 v2 v4 v3 v11 v14 v12 v19:=by
  exact (congrArg (gate N) (show evC (laws_kindred_E N) (codeAt (bodyOf Tryz.f4) [1,1,1,0,1,0,0,1,1,1]) ⟨[(0,.pv (.int .i64) v1),(1,.pv (.int .i64) v2),(6,.own (.list (.pair KD (.pair KD .unit))) 93),(8,.pv (.int .i64) v4),(9,.pv (.int .i64) (IntKind.i64.wrap (v11 + (IntKind.i64.wrap (Int.tdiv (v14.flat.length:Int) v4))))),(28,.pv (.list .geo) v3),(29,.pv (.int .i64) (v3.length:Int)),(30,.pv (.int .i64) v12)],[(93,.arr 26 (.list (.pair KD (.pair KD .unit))) v19)],[]⟩ (kSeq (advOf (laws_kindred_E N) (codeAt (bodyOf Tryz.f4) [1,1,1,0,1,0,0])) (fun st K=>loopN (advOf (laws_kindred_E N) (codeAt (bodyOf Tryz.f4) [1,1,1,0,1,0,0])) (evC (laws_kindred_E N) (codeAt (bodyOf Tryz.f4) [1,1,1,0,1,0,0])) m1 st K) (kBlock 0 (kSeq (advOf (laws_kindred_E N) (codeAt (bodyOf Tryz.f4) [1,1,1,1])) (evC (laws_kindred_E N) (codeAt (bodyOf Tryz.f4) [1,1,1,1])) (kEnd2 (laws_kindred_E N) [] Tryz.f4.results.toList [⟨[.row 26 (.list (.pair KD (.pair KD .unit))),.k .bool],[none,none,none]⟩] [.dead,.dead,.dead])))) = laws_kindred_g5 N v1 v2 v4 v3 v11 v14 v12 (laws_kindred_e1 N m1 v1 v2 v4 v3) v19 from by kernel_rfl)).trans (by rfl)
theorem laws_kindred_t4 (N:Nat) (m1:Nat) (v1:Int) (v2:Int) (v4:Int) (v3:(List Geo)) (v11:Int) (v14:Geo) (v12:Int) (v13:(List (List (((Bool×((List Int)×Unit))×(Int×Unit))×(((Bool×((List Int)×Unit))×(Int×Unit))×Unit))))):laws_kindred_e4 N m1 v1 v2 v4 v3 v11 v14 v12 v13 = laws_kindred_j4 N (laws_kindred_e1 N m1 v1 v2 v4 v3) v1 v2 v4 v3 v11 v14 v12 v13:=by
  have h5:(laws_kindred_e5 N m1 v1 v2 v4 v3) = (laws_kindred_j5 N (laws_kindred_e1 N m1 v1 v2 v4 v3) v1 v2 v4 v3):=by funext v11 v14 v12 v19; exact laws_kindred_t5 N m1 v1 v2 v4 v3 v11 v14 v12 v19
  exact (congrArg (gate N) (show evC (laws_kindred_E N) (codeAt (bodyOf Tryz.f4) [1,1,1,0,1,0,0,1,1,0,0,1,1,1,1,1,1]) ⟨[(0,.pv (.int .i64) v1),(1,.pv (.int .i64) v2),(6,.own (.list (.pair KD (.pair KD .unit))) 90500),(8,.pv (.int .i64) v4),(9,.pv (.int .i64) (IntKind.i64.wrap (v11 + (IntKind.i64.wrap (Int.tdiv (v14.flat.length:Int) v4))))),(11,.ref 11 0),(14,.own (.int .i64) 86),(28,.pv (.list .geo) v3),(29,.pv (.int .i64) (v3.length:Int)),(30,.pv (.int .i64) v12)],[(11,.box [.pv (.int .i64) v14.kind,.pv (.int .i64) v14.layout,.pv (.int .i64) v14.srid,.pv (.list .float) v14.flat,.pv (.list (.int .i64)) v14.ends,.pv (.list (.list (.int .i64))) v14.endss,.pv (.list .geo) v14.kids]),(86,.arr 3 (.int .i64) ([(v14.flat.length:Int)]:List Int)),(90500,.arr 26 (.list (.pair KD (.pair KD .unit))) v13)],[]⟩ (kBlock 1 (kSeq (advOf (laws_kindred_E N) (codeAt (bodyOf Tryz.f4) [1,1,1,0,1,0,0,1,1,1])) (evC (laws_kindred_E N) (codeAt (bodyOf Tryz.f4) [1,1,1,0,1,0,0,1,1,1])) (kSeq (advOf (laws_kindred_E N) (codeAt (bodyOf Tryz.f4) [1,1,1,0,1,0,0])) (fun st K=>loopN (advOf (laws_kindred_E N) (codeAt (bodyOf Tryz.f4) [1,1,1,0,1,0,0])) (evC (laws_kindred_E N) (codeAt (bodyOf Tryz.f4) [1,1,1,0,1,0,0])) m1 st K) (kBlock 0 (kSeq (advOf (laws_kindred_E N) (codeAt (bodyOf Tryz.f4) [1,1,1,1])) (evC (laws_kindred_E N) (codeAt (bodyOf Tryz.f4) [1,1,1,1])) (kEnd2 (laws_kindred_E N) [] Tryz.f4.results.toList [⟨[.row 26 (.list (.pair KD (.pair KD .unit))),.k .bool],[none,none,none]⟩] [.dead,.dead,.dead])))))) = laws_kindred_g4 N v1 v2 v4 v3 v11 v14 v12 v13 (laws_kindred_e5 N m1 v1 v2 v4 v3) (laws_kindred_e1 N m1 v1 v2 v4 v3) from by kernel_rfl)).trans (by rw [h5]; rfl)
theorem laws_kindred_t3 (N:Nat) (m1:Nat) (v1:Int) (v2:Int) (v4:Int) (v3:(List Geo)) (v11:Int) (v14:Geo) (v12:Int) (v13:(List (List (((Bool×((List Int)×Unit))×(Int×Unit))×(((Bool×((List Int)×Unit))×(Int×Unit))×Unit))))):laws_kindred_e3 N m1 v1 v2 v4 v3 v11 v14 v12 v13 = laws_kindred_j3 N (laws_kindred_e1 N m1 v1 v2 v4 v3) v1 v2 v4 v3 v11 v14 v12 v13:=by
  have h4:(laws_kindred_e4 N m1 v1 v2 v4 v3) = (laws_kindred_j4 N (laws_kindred_e1 N m1 v1 v2 v4 v3) v1 v2 v4 v3):=by funext v11 v14 v12 v13; exact laws_kindred_t4 N m1 v1 v2 v4 v3 v11 v14 v12 v13
  exact (congrArg (gate N) (show evC (laws_kindred_E N) (codeAt (bodyOf Tryz.f4) [1,1,1,0,1,0,0,1,1,0,0,1,1,1,1,1,0,1]) ⟨[(0,.pv (.int .i64) v1),(1,.pv (.int .i64) v2),(6,.own (.list (.pair KD (.pair KD .unit))) 90500),(8,.pv (.int .i64) v4),(9,.pv (.int .i64) (IntKind.i64.wrap (v11 + (IntKind.i64.wrap (Int.tdiv (v14.flat.length:Int) v4))))),(11,.ref 11 0),(14,.pv (.list (.int .i64)) v14.ends),(28,.pv (.list .geo) v3),(29,.pv (.int .i64) (v3.length:Int)),(30,.pv (.int .i64) v12),(82,.pv .bool true)],[(11,.box [.pv (.int .i64) v14.kind,.pv (.int .i64) v14.layout,.pv (.int .i64) v14.srid,.pv (.list .float) v14.flat,.pv (.list (.int .i64)) v14.ends,.pv (.list (.list (.int .i64))) v14.endss,.pv (.list .geo) v14.kids]),(90500,.arr 26 (.list (.pair KD (.pair KD .unit))) v13)],[]⟩ (kSeq (advOf (laws_kindred_E N) (codeAt (bodyOf Tryz.f4) [1,1,1,0,1,0,0,1,1,0,0,1,1,1,1,1,1])) (evC (laws_kindred_E N) (codeAt (bodyOf Tryz.f4) [1,1,1,0,1,0,0,1,1,0,0,1,1,1,1,1,1])) (kBlock 1 (kSeq (advOf (laws_kindred_E N) (codeAt (bodyOf Tryz.f4) [1,1,1,0,1,0,0,1,1,1])) (evC (laws_kindred_E N) (codeAt (bodyOf Tryz.f4) [1,1,1,0,1,0,0,1,1,1])) (kSeq (advOf (laws_kindred_E N) (codeAt (bodyOf Tryz.f4) [1,1,1,0,1,0,0])) (fun st K=>loopN (advOf (laws_kindred_E N) (codeAt (bodyOf Tryz.f4) [1,1,1,0,1,0,0])) (evC (laws_kindred_E N) (codeAt (bodyOf Tryz.f4) [1,1,1,0,1,0,0])) m1 st K) (kBlock 0 (kSeq (advOf (laws_kindred_E N) (codeAt (bodyOf Tryz.f4) [1,1,1,1])) (evC (laws_kindred_E N) (codeAt (bodyOf Tryz.f4) [1,1,1,1])) (kEnd2 (laws_kindred_E N) [] Tryz.f4.results.toList [⟨[.row 26 (.list (.pair KD (.pair KD .unit))),.k .bool],[none,none,none]⟩] [.dead,.dead,.dead]))))))) = laws_kindred_g3 N v1 v2 v4 v3 v11 v14 v12 v13 (laws_kindred_e4 N m1 v1 v2 v4 v3) (laws_kindred_e1 N m1 v1 v2 v4 v3) from by kernel_rfl)).trans (by rw [h4]; rfl)
theorem laws_kindred_t1 (N:Nat):∀ (n:Nat) (v1:Int) (v2:Int) (v4:Int) (v3:(List Geo)) (v11:Int) (v12:Int) (v13:(List (List (((Bool×((List Int)×Unit))×(Int×Unit))×(((Bool×((List Int)×Unit))×(Int×Unit))×Unit))))),laws_kindred_e1 N n v1 v2 v4 v3 v11 v12 v13 = laws_kindred_l1 N n v1 v2 v4 v3 v11 v12 v13
  | 0,_,_,_,_,_,_,_=>rfl
  | n + 1,v1,v2,v4,v3,v11,v12,v13=>by
    have h2:(laws_kindred_e2 N n v1 v2 v4 v3) = (laws_kindred_j2 N (laws_kindred_e1 N n v1 v2 v4 v3) v1 v2 v4 v3):=by funext v11 v12 v14 v13; exact laws_kindred_t2 N n v1 v2 v4 v3 v11 v12 v14 v13
    have h3:(laws_kindred_e3 N n v1 v2 v4 v3) = (laws_kindred_j3 N (laws_kindred_e1 N n v1 v2 v4 v3) v1 v2 v4 v3):=by funext v11 v14 v12 v13; exact laws_kindred_t3 N n v1 v2 v4 v3 v11 v14 v12 v13
    have h4:(laws_kindred_e4 N n v1 v2 v4 v3) = (laws_kindred_j4 N (laws_kindred_e1 N n v1 v2 v4 v3) v1 v2 v4 v3):=by funext v11 v14 v12 v13; exact laws_kindred_t4 N n v1 v2 v4 v3 v11 v14 v12 v13
    have h5:(laws_kindred_e5 N n v1 v2 v4 v3) = (laws_kindred_j5 N (laws_kindred_e1 N n v1 v2 v4 v3) v1 v2 v4 v3):=by funext v11 v14 v12 v19; exact laws_kindred_t5 N n v1 v2 v4 v3 v11 v14 v12 v19
    have h:laws_kindred_e1 N n v1 v2 v4 v3 = laws_kindred_l1 N n v1 v2 v4 v3:=by funext v11 v12 v13; exact laws_kindred_t1 N n v1 v2 v4 v3 v11 v12 v13
    exact (show laws_kindred_e1 N (n + 1) v1 v2 v4 v3 v11 v12 v13 = laws_kindred_g1 N v1 v2 v4 v3 (laws_kindred_e2 N n v1 v2 v4 v3) (laws_kindred_e3 N n v1 v2 v4 v3) (laws_kindred_e4 N n v1 v2 v4 v3) (laws_kindred_e5 N n v1 v2 v4 v3) (laws_kindred_e1 N n v1 v2 v4 v3) v11 v12 v13 from by kernel_rfl).trans (by rw [h2,h3,h4,h5,h]; rfl)
theorem laws_kindred_t (N:Nat) (v1:Int) (v2:Int) (v3:(List Geo)):evF2 (laws_kindred_E N) [] Tryz.f4 [.k (.int .i64),.k (.int .i64),.k (.list .geo)] [⟨[.row 26 (.list (.pair KD (.pair KD .unit))),.k .bool],[none,none,none]⟩] (v1,v2,v3,()) = laws_kindred N v1 v2 v3:=by
  have h0:(laws_kindred_e0 N) = (laws_kindred_j0 N):=by funext v1 v2 v3; exact laws_kindred_t0 N v1 v2 v3
  have h1:(laws_kindred_e1 N N) = (laws_kindred_l1 N N):=by funext v1 v2 v4 v3 v11 v12 v13; exact laws_kindred_t1 N N v1 v2 v4 v3 v11 v12 v13
  exact (show evF2 (laws_kindred_E N) [] Tryz.f4 [.k (.int .i64),.k (.int .i64),.k (.list .geo)] [⟨[.row 26 (.list (.pair KD (.pair KD .unit))),.k .bool],[none,none,none]⟩] (v1,v2,v3,()) = laws_kindred_g N v1 v2 v3 (laws_kindred_e0 N) (laws_kindred_e1 N N) from by kernel_rfl).trans (by rw [h0,h1]; rfl)
noncomputable def laws_kindred_con (N:Nat):Con2:=⟨4,[.k (.int .i64),.k (.int .i64),.k (.list .geo)],[⟨[.row 26 (.list (.pair KD (.pair KD .unit))),.k .bool],[none,none,none]⟩],fun x=>laws_kindred N x.1 x.2.1 x.2.2.1⟩
theorem laws_kindred_s (N:Nat):(laws_kindred_con N).Sound Tryz.prog [] :=
  Con2.sound_of (c:=laws_kindred_con N) (E:=(laws_kindred_E N)) (idle:=[]) Tryz.func4 (by kernel_rfl) (by kernel_rfl) ⟨(allCons (spec_Stride_s N) (allCons (spec_Good_s N) allNil)),(allCons (laws_flatTo_s N) (allCons (spec_Lines_s N) allNil)),rfl⟩ allNil (fun x y h=>(laws_kindred_t N x.1 x.2.1 x.2.2.1).trans h)

end
end Go.Proofs.YtjabjnkiddldeaaGreat.PC
