/- Texts of the proof, merged: LA TG TH TI TJ TK TL TM TN TO. -/
import Derived.Test.YtllnonlmibanfaaGreatDoorM3
import Derived.Test.YtllnonlmibanfaaGreatDoorProg
import Derived.Shelf.Bytes.GrowSlice
import Derived.KernelRfl
import Derived.Shelf.RegionOpenPlain
import Derived.Lib.ByteType
import Derived.Lib.Walk
import Derived.Lib.BufferMore
import Derived.WalkKit
import Derived.RegionTactic
import Derived.Deep.RegionWith
import Derived.Deep.Draws
import Derived.BigCall
import Derived.BigGuard
import Derived.Lib.BufferGrow
import Derived.Lib.BufferKept
import Derived.Lib.Hide
import Derived.Laws.IdiomCopy
import Derived.Laws.CopyRow
import Derived.Lib.BufferSrc
set_option linter.unusedVariables false
namespace Go.Proofs.YtllnonlmibanfaaGreatDoor.WR
open Go Go.RowKit Go.Proofs Go.Av Go.Shelf
def pick(l:List (Nat×Nat))(n:Nat):Nat:=match l with
 |[]=>0
 |(a,b)::r=>bif Nat.beq a n then b else pick r n
def ρ:Ren:=⟨pick [(290,147),(324,148)],pick [(0,0),(3,3),(4,4),(5,5),(9,9),(20,20),(37,29),(75,46),(80,233)],pick [(14,7)]⟩
theorem sz{P:Program}{t:TypeId}{n:Nat}(h:(match P.info? t with|some i=>some i.size|none=>none)=some n)(w:World):(Go.sizeOf t).run P w= .ok n w:=by
 cases hi:P.info? t with
 |none=>rw[hi]at h;cases h
 |some i=>rw[hi]at h;simp only[Option.some.injEq]at h;subst h;exact run_size hi w
theorem zv{P:Program}{t:TypeId}{v:Value}(h:(match P.info? t with|some i=>i.zero|none=>none)=some v)(w:World):(zeroValue t).run P w= .ok v w:=by
 cases hi:P.info? t with
 |none=>rw[hi]at h;cases h
 |some i=>rw[hi]at h;simp[zeroValue,typeInfo,hi,show i.zero=some v from h]
set_option maxRecDepth 100000 in
theorem l290:LaysM.n290 Tryz.prog ρ where
 mixed:=by kernel_rfl
 f290:=Tryz.func147.trans (congrArg some (by kernel_rfl))
 f324:=Tryz.func148.trans (congrArg some (by kernel_rfl))
 t0:=by kernel_rfl
 a0:=run_agg (by kernel_rfl)
 z0:=sz (by kernel_rfl)
 v0:=zv (by kernel_rfl)
 t3:=by kernel_rfl
 a3:=run_agg (by kernel_rfl)
 z3:=sz (by kernel_rfl)
 v3:=zv (by kernel_rfl)
 t4:=by kernel_rfl
 a4:=run_agg (by kernel_rfl)
 z4:=sz (by kernel_rfl)
 v4:=zv (by kernel_rfl)
 t20:=by kernel_rfl
 a20:=run_agg (by kernel_rfl)
 z20:=sz (by kernel_rfl)
 v20:=zv (by kernel_rfl)
 t37:=by kernel_rfl
 a37:=run_agg (by kernel_rfl)
 z37:=sz (by kernel_rfl)
 v37:=zv (by kernel_rfl)
 t75:=by kernel_rfl
 a75:=run_agg (by kernel_rfl)
 z75:=sz (by kernel_rfl)
 v75:=zv (by kernel_rfl)
 g14:=by kernel_rfl
 t5:=by kernel_rfl
 a5:=run_agg (by kernel_rfl)
 z5:=sz (by kernel_rfl)
 v5:=zv (by kernel_rfl)
 t9:=by kernel_rfl
 a9:=run_agg (by kernel_rfl)
 z9:=sz (by kernel_rfl)
 v9:=zv (by kernel_rfl)
 t80:=by kernel_rfl
 a80:=run_agg (by kernel_rfl)
 z80:=sz (by kernel_rfl)
 v80:=zv (by kernel_rfl)
 i0:=by kernel_rfl
 i3:=by kernel_rfl
 i4:=by kernel_rfl
 i5:=by kernel_rfl
 i9:=by kernel_rfl
 i20:=by kernel_rfl
 i37:=by kernel_rfl
 i75:=by kernel_rfl
 i80:=by kernel_rfl
 m14:=by kernel_rfl
theorem facts:Tryz.prog.follows .mixedOrders=true∧Tryz.prog.underlying 5=some (TypeDesc.int IntKind.u8)∧(∀w,(isAgg 5).run Tryz.prog w= .ok false w)∧(∀w,(Go.sizeOf 5).run Tryz.prog w= .ok 1 w)∧(∀w,(zeroValue 5).run Tryz.prog w= .ok (Value.int IntKind.u8 0) w)∧Tryz.prog.underlying 66=some (TypeDesc.pointer 124)∧(∀w,(isAgg 66).run Tryz.prog w= .ok false w)∧(∀w,(Go.sizeOf 66).run Tryz.prog w= .ok 1 w)∧(∀w,(zeroValue 66).run Tryz.prog w= .ok (Value.pointer none) w)∧Tryz.prog.underlying 3=some (TypeDesc.int IntKind.i64)∧(∀w,(isAgg 3).run Tryz.prog w= .ok false w)∧(∀w,(Go.sizeOf 3).run Tryz.prog w= .ok 1 w)∧(∀w,(zeroValue 3).run Tryz.prog w= .ok (Value.int IntKind.i64 0) w)∧Tryz.prog.underlying 4=some TypeDesc.bool∧(∀w,(isAgg 4).run Tryz.prog w= .ok false w)∧(∀w,(Go.sizeOf 4).run Tryz.prog w= .ok 1 w)∧(∀w,(zeroValue 4).run Tryz.prog w= .ok (Value.bool false) w)∧Tryz.prog.underlying 0=some (TypeDesc.tuple #[])∧(∀w,(isAgg 0).run Tryz.prog w= .ok false w)∧(∀w,(Go.sizeOf 0).run Tryz.prog w= .ok 1 w)∧(∀w,(zeroValue 0).run Tryz.prog w= .ok (Value.tuple #[]) w)∧Tryz.prog.underlying 29=some (TypeDesc.slice 5)∧(∀w,(isAgg 29).run Tryz.prog w= .ok false w)∧(∀w,(Go.sizeOf 29).run Tryz.prog w= .ok 1 w)∧(∀w,(zeroValue 29).run Tryz.prog w= .ok (Value.slice none 0 0) w)∧Tryz.prog.underlying 122=some (TypeDesc.int IntKind.i8)∧(∀w,(isAgg 122).run Tryz.prog w= .ok false w)∧(∀w,(Go.sizeOf 122).run Tryz.prog w= .ok 1 w)∧(∀w,(zeroValue 122).run Tryz.prog w= .ok (Value.int IntKind.i8 0) w)∧Tryz.prog.underlying 119=some (TypeDesc.tuple #[3,4])∧(∀w,(isAgg 119).run Tryz.prog w= .ok false w)∧(∀w,(Go.sizeOf 119).run Tryz.prog w= .ok 1 w)∧(∀w,(zeroValue 119).run Tryz.prog w= .ok (Value.tuple #[Value.int IntKind.i64 0,Value.bool false]) w)∧(∀w,(isAgg 124).run Tryz.prog w= .ok true w)∧(∀w,(Go.sizeOf 124).run Tryz.prog w= .ok 3 w)∧(∀w,(zeroValue 124).run Tryz.prog w= .ok (Value.agg #[Value.slice none 0 0,Value.int IntKind.i64 0,Value.int IntKind.i8 0]) w):=
 ⟨by kernel_rfl,by kernel_rfl,run_agg (by kernel_rfl),sz (by kernel_rfl),zv (by kernel_rfl),by kernel_rfl,run_agg (by kernel_rfl),sz (by kernel_rfl),zv (by kernel_rfl),by kernel_rfl,run_agg (by kernel_rfl),sz (by kernel_rfl),zv (by kernel_rfl),by kernel_rfl,run_agg (by kernel_rfl),sz (by kernel_rfl),zv (by kernel_rfl),by kernel_rfl,run_agg (by kernel_rfl),sz (by kernel_rfl),zv (by kernel_rfl),by kernel_rfl,run_agg (by kernel_rfl),sz (by kernel_rfl),zv (by kernel_rfl),by kernel_rfl,run_agg (by kernel_rfl),sz (by kernel_rfl),zv (by kernel_rfl),by kernel_rfl,run_agg (by kernel_rfl),sz (by kernel_rfl),zv (by kernel_rfl),run_agg (by kernel_rfl),sz (by kernel_rfl),zv (by kernel_rfl)⟩
set_option maxHeartbeats 2000000 in
set_option maxRecDepth 100000 in
theorem tryGrow_room(b:Nat)(ao:Option Addr)(l cap n:Nat)(w:World)(c0:w.cell? ⟨b,0,none⟩=some (.slice ao l cap))(f0:w.frozen? ⟨b,0,none⟩=false)
 (hlc:l≤cap) (hcap:cap≤maxLen) (hn:n≤cap-l):
 Calls Tryz.prog 144 #[.pointer (some ⟨b,0,none⟩), .int .i64 n] w fun e w'=>e= .returned (.tuple #[.int .i64 l, .bool true])∧w'=w.setCell ⟨b,0,none⟩ (.slice ao (l+n) cap):=by
 unfold maxLen at hcap
 go_enter Tryz.func144,Tryz.ntmps144
 go_wp2
 go_ret2
 exact⟨rfl,rfl⟩
set_option maxHeartbeats 2000000 in
set_option maxRecDepth 100000 in
theorem tryGrow_none(b:Nat)(ao:Option Addr)(l cap n:Nat)(w:World)(c0:w.cell? ⟨b,0,none⟩=some (.slice ao l cap))
 (hlc:l≤cap) (hcap:cap≤maxLen) (hn:cap-l<n):
 Calls Tryz.prog 144 #[.pointer (some ⟨b,0,none⟩), .int .i64 n] w fun e w'=>e= .returned (.tuple #[.int .i64 0, .bool false])∧w'=w:=by
 unfold maxLen at hcap
 go_enter Tryz.func144,Tryz.ntmps144
 go_wp2
 go_ret2
 exact⟨rfl,rfl⟩
set_option maxHeartbeats 2000000 in
set_option maxRecDepth 100000 in
theorem len_of(b:Nat)(ao:Option Addr)(l cap:Nat)(w:World)(c0:w.cell? ⟨b,0,none⟩=some (.slice ao l cap))(c1:w.cell? ⟨b,1,none⟩=some (.int .i64 0))(hl:l≤maxLen):
 Calls Tryz.prog 146 #[.pointer (some ⟨b,0,none⟩)] w fun e w'=>e= .returned (.int .i64 l)∧∃k,w'=w.drewN k:=by
 obtain⟨mixed,t5,a5,z5,v5,t66,a66,z66,v66,t3,a3,z3,v3,t4,a4,z4,v4,t0,a0,z0,v0,t29,a29,z29,v29,t122,a122,z122,v122,t119,a119,z119,v119,a124,z124,v124⟩:=facts
 unfold maxLen at hl
 go_enter Tryz.func146,Tryz.ntmps146
 go_wp2
 go_region_o
 all_goals(go_wp2;go_ret;exact⟨by simp,1,rfl⟩)
theorem growSlice_row(g l c n:Nat)(cur:Array Value)(w:World)(hg:w.heap[g]?=some (.cells cur 5 (0,0)))(hcs:cur.size=c)(hlc:l≤c)(hn:1≤n)
 (hlim:l+n≤140737488355328) (hc2:c≤140737488355328) (h1:∀v∈cur.toList.take l,v.oneCell'=true):
 Calls Tryz.prog 147 #[.slice (some ⟨g,0,none⟩) l c, .int .i64 n] w fun e w'=>∃cap2 cells,e= .returned (.slice (some ⟨w.heap.size,0,none⟩) l cap2)∧w'.heap[w.heap.size]?=some (.cells cells 5 (0,0))∧
  cells.size=cap2∧cells.toList.take l=cur.toList.take l∧l+n≤cap2∧cap2≤maxLen∧Below w.heap.size w w':=
 Any.bytes_growSlice_row l290 g l c n cur w hg hcs hlc hn hlim hc2 h1
theorem growSlice_nil(n:Nat)(w:World)(hn:1≤n)(hlim:n≤140737488355328):
 Calls Tryz.prog 147 #[.slice none 0 0, .int .i64 n] w fun e w'=>∃cap2 cells,e= .returned (.slice (some ⟨w.heap.size,0,none⟩) 0 cap2)∧w'.heap[w.heap.size]?=some (.cells cells 5 (0,0))∧
  cells.size=cap2∧n≤cap2∧cap2≤maxLen∧Below w.heap.size w w':=Any.bytes_growSlice_nil l290 n w hn hlim
def Grown(w w':World)(b:Nat)(lr:Int)(rest:List Value)(T:TypeId)(l n:Nat)(old:List Value):Prop:=
 ∃(N cap2:Nat) (cells:Array Value),w.heap.size≤N∧w'.heap[N]?=some (.cells cells 5 (0,0))∧cells.size=cap2∧cells.toList.take l=old∧l+n≤cap2∧cap2≤maxLen∧
  w'.heap[b]?=some (.cells (Value.slice (some ⟨N,0,none⟩) (l+n) cap2::Value.int .i64 0::Value.int .i8 lr::rest).toArray T (0,0))∧Bel (fun k=>k=b∨w.heap.size≤k) w w'
theorem cells_set(w:World){b:Nat}{vs:List Value}{T:TypeId}(h:w.heap[b]?=some (.cells vs.toArray T (0,0)))(i:Nat)(v:Value):
 (w.setCell ⟨b,i,none⟩ v).heap[b]?=some (.cells (vs.set i v).toArray T (0,0)):=by
 simp only[World.setCell,Array.getElem?_modify,if_true,h,Option.map_some]
 simp
theorem bel_set(w:World)(b i:Nat)(v:Value)(P:Nat→Prop)(hb:P b):Bel P w (w.setCell ⟨b,i,none⟩ v):=
 ⟨rfl,rfl,rfl,by simp,fun k hk=>Below.heap_setCell _ _ _ _ (fun e=>hk (e▸hb))⟩
theorem grown_end{w w2:World}{b N l n cap2:Nat}{lr:Int}{v0 v1:Value}{rest:List Value}{T:TypeId}{cells:Array Value}{old:List Value}
 (hbk:w2.heap[b]?=some (.cells (v0::Value.int .i64 0::Value.int .i8 lr::rest).toArray T (0,0))) (hN:w2.heap[N]?=some (.cells cells 5 (0,0))) (hNw:w.heap.size≤N) (hbw:b<w.heap.size)
 (hcs:cells.size=cap2) (htk:cells.toList.take l=old) (hc:l+n≤cap2) (hcm:cap2≤maxLen) (hbel:Below w.heap.size w w2):
 Grown w (((w2.setCell ⟨b,0,none⟩ v1).setCell ⟨b,1,none⟩ (.int .i64 0)).setCell ⟨b,0,none⟩ (.slice (some ⟨N,0,none⟩) (l+n) cap2)) b lr rest T l n old:=by
 have hne:N≠b:=by omega
 refine⟨N,cap2,cells,hNw, ?_,hcs,htk,hc,hcm, ?_, ?_⟩
 ·rw[Below.heap_setCell _ _ _ _ hne,Below.heap_setCell _ _ _ _ hne,Below.heap_setCell _ _ _ _ hne]
  exact hN
 ·have h1:=cells_set w2 hbk 0 v1
  have h2:=cells_set _ h1 1 (.int .i64 0)
  have h3:=cells_set _ h2 0 (.slice (some ⟨N,0,none⟩) (l+n) cap2)
  simpa using h3
 ·exact(((Bel.of hbel (fun k hk=> .inr hk)).trans (bel_set _ b 0 v1 _ (.inl rfl))).trans (bel_set _ b 1 _ _ (.inl rfl))).trans (bel_set _ b 0 _ _ (.inl rfl))
theorem enter (n : Nat) {fn : Func} (hf : Tryz.prog.funcs[n]? = some fn) (h1 : (fn.name == "runtime.NumGoroutine") = false) (h2 : fn.body.isNone = false) (args : Array Value) (w : World) : (callFunc n args).run Tryz.prog w = .ok (.enter n args) w := by
 have hn' : ¬ fn.name = "runtime.NumGoroutine" := by simpa using h1
 have hb':¬fn.body=none:=by intro e;rw[e]at h2;cases h2
 simp[callFunc,hf,hn',hb']
set_option maxHeartbeats 12800000 in
set_option maxRecDepth 100000 in
theorem grow_row(b g l cap n:Nat)(lr:Int)(cur:Array Value)(rest:List Value)(T:TypeId)(w:World)
 (hbk:w.heap[b]?=some (.cells (Value.slice (some ⟨g,0,none⟩) l cap::Value.int .i64 0::Value.int .i8 lr::rest).toArray T (0,0)))
 (hg:w.heap[g]?=some (.cells cur 5 (0,0))) (hl0:1≤l) (hlc:l≤cap) (hcm:cap≤maxLen) (hcs:cur.size=cap)
 (h1:∀v∈cur.toList.take l,v.oneCell'=true) (hn:1≤n) (hroom:cap-l<n) (hlim:l+n≤140737488355328):
 Calls Tryz.prog 145 #[.pointer (some ⟨b,0,none⟩), .int .i64 n] w fun e w'=>e= .returned (.int .i64 l)∧Grown w w' b lr rest T l n (cur.toList.take l):=by
 have hnil:∀W,(binOp .eql 29 (.slice (some ⟨g,0,none⟩) l cap) (.slice none 0 0)).run Tryz.prog W= .ok (.bool false) W:=fun W=>Lib.run_eql_slice_some_nil W _ _ _ (e:=5) (by kernel_rfl)
 have hbw:=Lib.lt_of_heap hbk
 have c0:w.cell? ⟨b,0,none⟩=some (.slice (some ⟨g,0,none⟩) l cap):=by rw[Lib.cell_of_heap hbk];rfl
 have c1:w.cell? ⟨b,1,none⟩=some (.int .i64 0):=by rw[Lib.cell_of_heap hbk];rfl
 have e146:=enter 146 Tryz.func146 (by kernel_rfl) (by kernel_rfl)
 have e144:=enter 144 Tryz.func144 (by kernel_rfl) (by kernel_rfl)
 have e147:=enter 147 Tryz.func147 (by kernel_rfl) (by kernel_rfl)
 obtain⟨mixed,t5,a5,z5,v5,t66,a66,z66,v66,t3,a3,z3,v3,t4,a4,z4,v4,t0,a0,z0,v0,t29,a29,z29,v29,t122,a122,z122,v122,t119,a119,z119,v119,a124,z124,v124⟩:=facts
 go_enter Tryz.func145,Tryz.ntmps145
 go_wp2_with (go_at_call 146;refine(len_of b _ l cap _ c0 c1 (Nat.le_trans hlc hcm)).mono ?_)
 rintro e W0 ⟨rfl,k,hW0⟩
 have hbk0:W0.heap[b]?=some (.cells (Value.slice (some ⟨g,0,none⟩) l cap::Value.int .i64 0::Value.int .i8 lr::rest).toArray T (0,0)):=by rw[hW0];exact hbk
 have hg0:W0.heap[g]?=some (.cells cur 5 (0,0)):=by rw[hW0];exact hg
 clear c0 c1
 have c0:W0.cell? ⟨b,0,none⟩=some (.slice (some ⟨g,0,none⟩) l cap):=by rw[Lib.cell_of_heap hbk0];rfl
 have c1:W0.cell? ⟨b,1,none⟩=some (.int .i64 0):=by rw[Lib.cell_of_heap hbk0];rfl
 have f0:W0.frozen? ⟨b,0,none⟩=false:=Lib.frozen_of_heap hbk0 0
 have f1:W0.frozen? ⟨b,1,none⟩=false:=Lib.frozen_of_heap hbk0 1
 have HW0:=Lib.hid hW0
 clear hW0
 have hcm':=hcm
 unfold maxLen at hcm'
 go_wp2_with (go_at_call 144;refine(tryGrow_none b _ l cap n _ c0 hlc hcm hroom).mono ?_;rintro e w' ⟨rfl,rfl⟩)
 have hc2:cap≤140737488355328:=by omega
 have hbW:=Lib.lt_of_heap hbk0
 have hwn:IntKind.i64.wrap (n:Int)=n:=by rw[IntKind.wrap_i64];omega
 go_region_with_o (
  go_at_call 147
  refine(growSlice_row g l cap n cur _ ?_ hcs hlc hn hlim hc2 h1).mono ?_
  exact hg0
  rintro e w2 ⟨cap2,cells,rfl,hN,hcsz,htk,hcap2,hcm2,hbel⟩
  have hbk2:w2.heap[b]?=some (.cells (Value.slice (some ⟨g,0,none⟩) l cap::Value.int .i64 0::Value.int .i8 lr::rest).toArray T (0,0)):=(hbel.block b hbW).trans hbk0
  have d0:w2.cell? ⟨b,0,none⟩=some (.slice (some ⟨g,0,none⟩) l cap):=by rw[Lib.cell_of_heap hbk2];rfl
  have d1:w2.cell? ⟨b,1,none⟩=some (.int .i64 0):=by rw[Lib.cell_of_heap hbk2];rfl
  have e0:w2.frozen? ⟨b,0,none⟩=false:=Lib.frozen_of_heap hbk2 0
  have e1:w2.frozen? ⟨b,1,none⟩=false:=Lib.frozen_of_heap hbk2 1)
 all_goals(
  go_wp2
  go_ret
  have hsz0:w'.heap.size=w.heap.size:=by rw[HW0.out];rfl
  have hb0:Below w.heap.size w w'.drew:=by rw[HW0.out];exact⟨rfl,rfl,rfl,Nat.le_refl _,fun _ _=>rfl⟩
  exact⟨rfl,grown_end hbk2 hN (by show w.heap.size≤w'.heap.size;omega) hbw hcsz htk hcap2 hcm2 (hb0.trans (hbel.mono (by show w.heap.size≤w'.heap.size;omega)))⟩)
set_option maxHeartbeats 12800000 in
set_option maxRecDepth 100000 in
theorem grow_row0(b g cap n:Nat)(lr:Int)(cur:Array Value)(rest:List Value)(T:TypeId)(w:World)
 (hbk:w.heap[b]?=some (.cells (Value.slice (some ⟨g,0,none⟩) 0 cap::Value.int .i64 0::Value.int .i8 lr::rest).toArray T (0,0)))
 (hg:w.heap[g]?=some (.cells cur 5 (0,0))) (hlc:0≤cap) (hcm:cap≤maxLen) (hcs:cur.size=cap)
 (h1:∀v∈cur.toList.take 0,v.oneCell'=true) (hn:1≤n) (hroom:cap-0<n) (hlim:0+n≤140737488355328):
 Calls Tryz.prog 145 #[.pointer (some ⟨b,0,none⟩), .int .i64 n] w fun e w'=>e= .returned (.int .i64 0)∧Grown w w' b lr rest T 0 n (cur.toList.take 0):=by
 have hnil:∀W,(binOp .eql 29 (.slice (some ⟨g,0,none⟩) 0 cap) (.slice none 0 0)).run Tryz.prog W= .ok (.bool false) W:=fun W=>Lib.run_eql_slice_some_nil W _ _ _ (e:=5) (by kernel_rfl)
 have hbw:=Lib.lt_of_heap hbk
 have c0:w.cell? ⟨b,0,none⟩=some (.slice (some ⟨g,0,none⟩) 0 cap):=by rw[Lib.cell_of_heap hbk];rfl
 have c1:w.cell? ⟨b,1,none⟩=some (.int .i64 0):=by rw[Lib.cell_of_heap hbk];rfl
 have e146:=enter 146 Tryz.func146 (by kernel_rfl) (by kernel_rfl)
 have e144:=enter 144 Tryz.func144 (by kernel_rfl) (by kernel_rfl)
 have e147:=enter 147 Tryz.func147 (by kernel_rfl) (by kernel_rfl)
 obtain⟨mixed,t5,a5,z5,v5,t66,a66,z66,v66,t3,a3,z3,v3,t4,a4,z4,v4,t0,a0,z0,v0,t29,a29,z29,v29,t122,a122,z122,v122,t119,a119,z119,v119,a124,z124,v124⟩:=facts
 go_enter Tryz.func145,Tryz.ntmps145
 go_wp2_with (go_at_call 146;refine(len_of b _ 0 cap _ c0 c1 (Nat.le_trans hlc hcm)).mono ?_)
 rintro e W0 ⟨rfl,k,hW0⟩
 have hbk0:W0.heap[b]?=some (.cells (Value.slice (some ⟨g,0,none⟩) 0 cap::Value.int .i64 0::Value.int .i8 lr::rest).toArray T (0,0)):=by rw[hW0];exact hbk
 have hg0:W0.heap[g]?=some (.cells cur 5 (0,0)):=by rw[hW0];exact hg
 clear c0 c1
 have c0:W0.cell? ⟨b,0,none⟩=some (.slice (some ⟨g,0,none⟩) 0 cap):=by rw[Lib.cell_of_heap hbk0];rfl
 have c1:W0.cell? ⟨b,1,none⟩=some (.int .i64 0):=by rw[Lib.cell_of_heap hbk0];rfl
 have f0:W0.frozen? ⟨b,0,none⟩=false:=Lib.frozen_of_heap hbk0 0
 have f1:W0.frozen? ⟨b,1,none⟩=false:=Lib.frozen_of_heap hbk0 1
 have HW0:=Lib.hid hW0
 clear hW0
 have hcm':=hcm
 unfold maxLen at hcm'
 go_wp2_with (go_at_call 144;refine(tryGrow_none b _ 0 cap n _ c0 hlc hcm hroom).mono ?_;rintro e w' ⟨rfl,rfl⟩)
 have hc2:cap≤140737488355328:=by omega
 have hbW:=Lib.lt_of_heap hbk0
 have hwn:IntKind.i64.wrap (n:Int)=n:=by rw[IntKind.wrap_i64];omega
 go_region_with_o (
  go_at_call 147
  refine(growSlice_row g 0 cap n cur _ ?_ hcs hlc hn hlim hc2 h1).mono ?_
  exact hg0
  rintro e w2 ⟨cap2,cells,rfl,hN,hcsz,htk,hcap2,hcm2,hbel⟩
  have hbk2:w2.heap[b]?=some (.cells (Value.slice (some ⟨g,0,none⟩) 0 cap::Value.int .i64 0::Value.int .i8 lr::rest).toArray T (0,0)):=(hbel.block b hbW).trans hbk0
  have d0:w2.cell? ⟨b,0,none⟩=some (.slice (some ⟨g,0,none⟩) 0 cap):=by rw[Lib.cell_of_heap hbk2];rfl
  have d1:w2.cell? ⟨b,1,none⟩=some (.int .i64 0):=by rw[Lib.cell_of_heap hbk2];rfl
  have e0:w2.frozen? ⟨b,0,none⟩=false:=Lib.frozen_of_heap hbk2 0
  have e1:w2.frozen? ⟨b,1,none⟩=false:=Lib.frozen_of_heap hbk2 1)
 all_goals(
  go_wp2
  go_ret
  have hsz0:w'.heap.size=w.heap.size:=by rw[HW0.out];rfl
  have hb0:Below w.heap.size w w'.drew:=by rw[HW0.out];exact⟨rfl,rfl,rfl,Nat.le_refl _,fun _ _=>rfl⟩
  exact⟨rfl,by simpa using grown_end (l:=0) (n:=n) hbk2 hN (by show w.heap.size≤w'.heap.size;omega) hbw hcsz htk hcap2 hcm2 (hb0.trans (hbel.mono (by show w.heap.size≤w'.heap.size;omega)))⟩)
theorem grown_small{W w:World}{b n:Nat}{lr:Int}{v0:Value}{rest:List Value}{T:TypeId}{M:Array Value}{cap:Nat}
 (hbk:W.heap[b]?=some (.cells (v0::Value.int .i64 0::Value.int .i8 lr::rest).toArray T (0,0))) (hbw:b<w.heap.size) (hM:M.size=cap) (hn:n≤cap) (hcm:cap≤maxLen) (hsz:W.heap.size=w.heap.size) (hbel:Below w.heap.size w W):
 Grown w ((W.setCell ⟨b,0,none⟩ (.slice (some ⟨W.heap.size,0,none⟩) n cap)).alloc (.cells M 5)) b lr rest T 0 n []:=by
 have hs:(W.setCell ⟨b,0,none⟩ (.slice (some ⟨W.heap.size,0,none⟩) n cap)).heap.size=W.heap.size:=by simp[World.setCell]
 refine⟨W.heap.size,cap,M,by omega, ?_,hM,by simp,by omega,hcm, ?_, ?_⟩
 ·have h:=heap_alloc_new (W.setCell ⟨b,0,none⟩ (.slice (some ⟨W.heap.size,0,none⟩) n cap)) (.cells M 5)
  rw[hs]at h
  exact h
 ·rw[Below.heap_alloc _ _ b (by rw[hs];omega)]
  have h1:=cells_set W hbk 0 (.slice (some ⟨W.heap.size,0,none⟩) n cap)
  simpa using h1
 ·refine((Bel.of hbel (fun k hk=> .inr hk)).trans (bel_set W b 0 (.slice (some ⟨W.heap.size,0,none⟩) n cap) _ (.inl rfl))).trans ⟨rfl,rfl,rfl,by simp,fun k hk=> ?_⟩
  rcases Nat.lt_or_ge k W.heap.size with h|h
  ·exact Below.heap_alloc _ _ k (by rw[hs];exact h)
  ·exact absurd (.inr (by omega)) hk
set_option maxHeartbeats 12800000 in
set_option maxRecDepth 100000 in
theorem grow_nil_small(b n:Nat)(lr:Int)(rest:List Value)(T:TypeId)(w:World)
 (hbk:w.heap[b]?=some (.cells (Value.slice none 0 0::Value.int .i64 0::Value.int .i8 lr::rest).toArray T (0,0))) (hn:1≤n) (h64:n≤64):
 Calls Tryz.prog 145 #[.pointer (some ⟨b,0,none⟩), .int .i64 n] w fun e w'=>e= .returned (.int .i64 0)∧Grown w w' b lr rest T 0 n []:=by
 obtain⟨i0,hi,hz0,hz1,hz2⟩:=info_parts l290.i5
 obtain⟨M,hM⟩:∃M,M=madeCells (Value.int .u8 0).cells ((64:Int).toNat *i0.size):=⟨_,rfl⟩
 have hMs:M.size=64:=by rw[hM,size_madeCells,hz1];rfl
 have hmk:∀W:World,(Instr.makeSlice 29 (.int .i64 (n:Int)) (.int .i64 64)).run Tryz.prog W= .ok (.slice (some ⟨W.heap.size,0,none⟩) n 64) (W.alloc (.cells M 5)):=fun W=>by
  have h:=run_makeSlice (P:=Tryz.prog) W 29 5 i0 (.int .u8 0) (by kernel_rfl) hi hz0 .i64 .i64 (n:Int) 64 (by omega) (by omega) (by rw[hz1];decide) (by rw[hz2];decide) (by decide)
  rw[←hM]at h
  simpa using h
 clear hM
 have hnil:∀W,(binOp .eql 29 (.slice none 0 0) (.slice none 0 0)).run Tryz.prog W= .ok (.bool true) W:=fun W=>Lib.run_eql_slice_nil_nil W _ _ (e:=5) (by kernel_rfl)
 have hbw:=Lib.lt_of_heap hbk
 have c0:w.cell? ⟨b,0,none⟩=some (.slice none 0 0):=by rw[Lib.cell_of_heap hbk];rfl
 have c1:w.cell? ⟨b,1,none⟩=some (.int .i64 0):=by rw[Lib.cell_of_heap hbk];rfl
 have e146:=enter 146 Tryz.func146 (by kernel_rfl) (by kernel_rfl)
 have e144:=enter 144 Tryz.func144 (by kernel_rfl) (by kernel_rfl)
 obtain⟨mixed,t5,a5,z5,v5,t66,a66,z66,v66,t3,a3,z3,v3,t4,a4,z4,v4,t0,a0,z0,v0,t29,a29,z29,v29,t122,a122,z122,v122,t119,a119,z119,v119,a124,z124,v124⟩:=facts
 go_enter Tryz.func145,Tryz.ntmps145
 go_wp2_with (go_at_call 146;refine(len_of b _ 0 0 _ c0 c1 (Nat.zero_le _)).mono ?_)
 rintro e W0 ⟨rfl,k,hW0⟩
 have hbk0:W0.heap[b]?=some (.cells (Value.slice none 0 0::Value.int .i64 0::Value.int .i8 lr::rest).toArray T (0,0)):=by rw[hW0];exact hbk
 clear c0 c1
 have c0:W0.cell? ⟨b,0,none⟩=some (.slice none 0 0):=by rw[Lib.cell_of_heap hbk0];rfl
 have c1:W0.cell? ⟨b,1,none⟩=some (.int .i64 0):=by rw[Lib.cell_of_heap hbk0];rfl
 have f0:W0.frozen? ⟨b,0,none⟩=false:=Lib.frozen_of_heap hbk0 0
 have f1:W0.frozen? ⟨b,1,none⟩=false:=Lib.frozen_of_heap hbk0 1
 have hbW0:=Lib.lt_of_heap hbk0
 have c0a:∀o,(W0.alloc o).cell? ⟨b,0,none⟩=some (.slice none 0 0):=fun o=>(World.cell?_of_block (a:=⟨b,0,none⟩) (Below.heap_alloc W0 o b hbW0)).trans c0
 have f0a:∀o,(W0.alloc o).frozen? ⟨b,0,none⟩=false:=fun o=>(World.frozen?_of_block (a:=⟨b,0,none⟩) (Below.heap_alloc W0 o b hbW0)).trans f0
 have HW0:=Lib.hid hW0
 clear hW0
 go_wp2_with (go_at_call 144;refine(tryGrow_none b _ 0 0 n _ c0 (Nat.le_refl _) (Nat.zero_le _) (by omega)).mono ?_;rintro e w' ⟨rfl,rfl⟩)
 go_ret
 have hsz0:w'.heap.size=w.heap.size:=by rw[HW0.out];rfl
 have hb0:Below w.heap.size w w':=by rw[HW0.out];exact⟨rfl,rfl,rfl,Nat.le_refl _,fun _ _=>rfl⟩
 exact⟨rfl,grown_small hbk0 hbw hMs h64 (by unfold maxLen;omega) hsz0 hb0⟩
set_option maxHeartbeats 12800000 in
set_option maxRecDepth 100000 in
theorem grow_nil_big(b n:Nat)(lr:Int)(rest:List Value)(T:TypeId)(w:World)
 (hbk:w.heap[b]?=some (.cells (Value.slice none 0 0::Value.int .i64 0::Value.int .i8 lr::rest).toArray T (0,0))) (h64:64<n) (hlim:n≤140737488355328):
 Calls Tryz.prog 145 #[.pointer (some ⟨b,0,none⟩), .int .i64 n] w fun e w'=>e= .returned (.int .i64 0)∧Grown w w' b lr rest T 0 n []:=by
 have hn:1≤n:=by omega
 have hnil:∀W,(binOp .eql 29 (.slice none 0 0) (.slice none 0 0)).run Tryz.prog W= .ok (.bool true) W:=fun W=>Lib.run_eql_slice_nil_nil W _ _ (e:=5) (by kernel_rfl)
 have hbw:=Lib.lt_of_heap hbk
 have c0:w.cell? ⟨b,0,none⟩=some (.slice none 0 0):=by rw[Lib.cell_of_heap hbk];rfl
 have c1:w.cell? ⟨b,1,none⟩=some (.int .i64 0):=by rw[Lib.cell_of_heap hbk];rfl
 have e146:=enter 146 Tryz.func146 (by kernel_rfl) (by kernel_rfl)
 have e144:=enter 144 Tryz.func144 (by kernel_rfl) (by kernel_rfl)
 have e147:=enter 147 Tryz.func147 (by kernel_rfl) (by kernel_rfl)
 obtain⟨mixed,t5,a5,z5,v5,t66,a66,z66,v66,t3,a3,z3,v3,t4,a4,z4,v4,t0,a0,z0,v0,t29,a29,z29,v29,t122,a122,z122,v122,t119,a119,z119,v119,a124,z124,v124⟩:=facts
 go_enter Tryz.func145,Tryz.ntmps145
 go_wp2_with (go_at_call 146;refine(len_of b _ 0 0 _ c0 c1 (Nat.zero_le _)).mono ?_)
 rintro e W0 ⟨rfl,k,hW0⟩
 have hbk0:W0.heap[b]?=some (.cells (Value.slice none 0 0::Value.int .i64 0::Value.int .i8 lr::rest).toArray T (0,0)):=by rw[hW0];exact hbk
 clear c0 c1
 have c0:W0.cell? ⟨b,0,none⟩=some (.slice none 0 0):=by rw[Lib.cell_of_heap hbk0];rfl
 have c1:W0.cell? ⟨b,1,none⟩=some (.int .i64 0):=by rw[Lib.cell_of_heap hbk0];rfl
 have f0:W0.frozen? ⟨b,0,none⟩=false:=Lib.frozen_of_heap hbk0 0
 have f1:W0.frozen? ⟨b,1,none⟩=false:=Lib.frozen_of_heap hbk0 1
 have HW0:=Lib.hid hW0
 clear hW0
 go_wp2_with (go_at_call 144;refine(tryGrow_none b _ 0 0 n _ c0 (Nat.le_refl _) (Nat.zero_le _) (by omega)).mono ?_;rintro e w' ⟨rfl,rfl⟩)
 have hbW:=Lib.lt_of_heap hbk0
 have hwn:IntKind.i64.wrap (n:Int)=n:=by rw[IntKind.wrap_i64];omega
 go_region_with_o (
  go_at_call 147
  refine(growSlice_nil n _ hn hlim).mono ?_
  rintro e w2 ⟨cap2,cells,rfl,hN,hcsz,hcap2,hcm2,hbel⟩
  have hbk2:w2.heap[b]?=some (.cells (Value.slice none 0 0::Value.int .i64 0::Value.int .i8 lr::rest).toArray T (0,0)):=(hbel.block b hbW).trans hbk0
  have d0:w2.cell? ⟨b,0,none⟩=some (.slice none 0 0):=by rw[Lib.cell_of_heap hbk2];rfl
  have d1:w2.cell? ⟨b,1,none⟩=some (.int .i64 0):=by rw[Lib.cell_of_heap hbk2];rfl
  have e0:w2.frozen? ⟨b,0,none⟩=false:=Lib.frozen_of_heap hbk2 0
  have e1:w2.frozen? ⟨b,1,none⟩=false:=Lib.frozen_of_heap hbk2 1)
 all_goals(
  go_wp2
  go_ret
  have hsz0:w'.heap.size=w.heap.size:=by rw[HW0.out];rfl
  have hb0:Below w.heap.size w w'.drew:=by rw[HW0.out];exact⟨rfl,rfl,rfl,Nat.le_refl _,fun _ _=>rfl⟩
  exact⟨rfl,by simpa using grown_end (l:=0) (n:=n) (old:=[]) hbk2 hN (by show w.heap.size≤w'.heap.size;omega) hbw hcsz (by simp) (by omega) hcm2 (hb0.trans (hbel.mono (by show w.heap.size≤w'.heap.size;omega)))⟩)
def Wrote(w w':World)(b g:Nat)(lr:Int)(rest:List Value)(T:TypeId)(m:Nat)(all:List Value):Prop:=
 ∃(g' cap':Nat) (cur:Array Value),(g'=g∨w.heap.size≤g')∧w'.heap[g']?=some (.cells cur 5 (0,0))∧cur.size=cap'∧m≤cap'∧cap'≤maxLen∧cur.toList.take m=all∧
  w'.heap[b]?=some (.cells (Value.slice (some ⟨g',0,none⟩) m cap'::Value.int .i64 0::Value.int .i8 lr::rest).toArray T (0,0))∧Bel (fun k=>k=b∨k=g∨w.heap.size≤k) w w'
theorem wrote_end{w W:World}{b g g' l cap:Nat}{lr:Int}{rest cs:List Value}{T:TypeId}{cur:Array Value}{old:List Value}
 (hbk:W.heap[b]?=some (.cells (Value.slice (some ⟨g',0,none⟩) (l+cs.length) cap::Value.int .i64 0::Value.int .i8 lr::rest).toArray T (0,0)))
 (hg:W.heap[g']?=some (.cells cur 5 (0,0))) (hcs:cur.size=cap) (hc:l+cs.length≤cap) (hcm:cap≤maxLen) (htk:cur.toList.take l=old) (hgb:g'≠b)
 (hgg:g'=g∨w.heap.size≤g') (hbel:Bel (fun k=>k=b∨k=g∨w.heap.size≤k) w W):
 Wrote w (W.setRow g' (cur.toList.take l++cs++cur.toList.drop (l+cs.length)).toArray) b g lr rest T (l+cs.length) (old++cs):=by
 have hl:(cur.toList.take l).length=l:=by rw[List.length_take,Array.length_toList];omega
 refine⟨g',cap,_,hgg,setRow_heap W g' cur _ 5 (0,0) hg, ?_,hc,hcm, ?_, ?_,hbel.trans ⟨rfl,rfl,rfl,by simp,fun k hk=>setRow_other _ _ _ _ (fun e=>hk ?_)⟩⟩
 ·simp only[List.size_toArray,List.length_append,hl,List.length_drop,Array.length_toList];omega
 ·rw[List.toList_toArray,List.take_append_of_le_length (by rw[List.length_append,hl];exact Nat.le_refl _),List.take_of_length_le (by rw[List.length_append,hl];exact Nat.le_refl _),htk]
 ·rw[setRow_other _ _ _ _ (Ne.symm hgb)];exact hbk
 ·rcases hgg with h|h
  ·exact .inr (.inl (e.trans h))
  ·exact .inr (.inr (e▸h))
set_option maxHeartbeats 6400000 in
set_option maxRecDepth 100000 in
theorem Write_zero(b:Nat)(ao:Option Addr)(l cap:Nat)(lr:Int)(so:Option Addr)(c:Nat)(rest:List Value)(T:TypeId)(w:World)
 (hbk:w.heap[b]?=some (.cells (Value.slice ao l cap::Value.int .i64 0::Value.int .i8 lr::rest).toArray T (0,0))) (hlc:l≤cap) (hcm:cap≤maxLen):
 Calls Tryz.prog 142 #[.pointer (some ⟨b,0,none⟩), .slice so 0 c] w fun e w'=>e= .returned (.tuple #[.int .i64 0, .nilIface])∧w'=(w.setCell ⟨b,2,none⟩ (.int .i8 0)).setCell ⟨b,0,none⟩ (.slice ao l cap):=by
 have c2:w.cell? ⟨b,2,none⟩=some (.int .i8 lr):=by rw[Lib.cell_of_heap hbk];rfl
 have f2:w.frozen? ⟨b,2,none⟩=false:=Lib.frozen_of_heap hbk 2
 have hbk1:(w.setCell ⟨b,2,none⟩ (.int .i8 0)).heap[b]?=some (.cells (Value.slice ao l cap::Value.int .i64 0::Value.int .i8 0::rest).toArray T (0,0)):=cells_set w hbk 2 _
 have c0:(w.setCell ⟨b,2,none⟩ (.int .i8 0)).cell? ⟨b,0,none⟩=some (.slice ao l cap):=by rw[Lib.cell_of_heap hbk1];rfl
 have f0:(w.setCell ⟨b,2,none⟩ (.int .i8 0)).frozen? ⟨b,0,none⟩=false:=Lib.frozen_of_heap hbk1 0
 have hbk2:((w.setCell ⟨b,2,none⟩ (.int .i8 0)).setCell ⟨b,0,none⟩ (.slice ao l cap)).heap[b]?=some (.cells (Value.slice ao l cap::Value.int .i64 0::Value.int .i8 0::rest).toArray T (0,0)):=cells_set _ hbk1 0 _
 have d0:((w.setCell ⟨b,2,none⟩ (.int .i8 0)).setCell ⟨b,0,none⟩ (.slice ao l cap)).cell? ⟨b,0,none⟩=some (.slice ao l cap):=by rw[Lib.cell_of_heap hbk2];rfl
 have hinfo:(Tryz.prog.info? 5).map (·.size)=some 1:=by
  obtain⟨i0,hi, -,hz1, -⟩:=info_parts l290.i5
  rw[show Tryz.prog.info? 5=some i0 from hi];simp[hz1]
 have hce:∀d dLen dCap W,(Builtin.copy_ #[29,29] 3 #[.slice d dLen dCap, .slice so 0 c]).run Tryz.prog W= .ok (goInt 0) W:=fun d dLen dCap W=>run_copy_none W 29 29 3 5 d so dLen dCap 0 c (by kernel_rfl) hinfo (by simp)
 have hT:=tryGrow_room b ao l cap 0 _ c0 f0 hlc hcm (Nat.zero_le _)
 have e144:=enter 144 Tryz.func144 (by kernel_rfl) (by kernel_rfl)
 have e145:=enter 145 Tryz.func145 (by kernel_rfl) (by kernel_rfl)
 obtain⟨mixed,t5,a5,z5,v5,t66,a66,z66,v66,t3,a3,z3,v3,t4,a4,z4,v4,t0,a0,z0,v0,t29,a29,z29,v29,t122,a122,z122,v122,t119,a119,z119,v119,a124,z124,v124⟩:=facts
 unfold maxLen at hcm
 go_enter Tryz.func142,Tryz.ntmps142
 go_wp2_with (go_at_call 144;refine hT.mono ?_;rintro e w' ⟨rfl,rfl⟩)
 all_goals(go_ret2;exact⟨rfl,rfl⟩)
theorem hinfo5:(Tryz.prog.info? 5).map (·.size)=some 1:=by
 obtain⟨i0,hi, -,hz1, -⟩:=info_parts l290.i5
 rw[show Tryz.prog.info? 5=some i0 from hi];simp[hz1]
set_option maxHeartbeats 400000 in
set_option maxRecDepth 100000 in
theorem Write_room(b g l cap:Nat)(lr:Int)(cur:Array Value)(a:Addr)(c:Nat)(cs:List Value)(rest:List Value)(T:TypeId)(w:World)
 (hbk:w.heap[b]?=some (.cells (Value.slice (some ⟨g,0,none⟩) l cap::Value.int .i64 0::Value.int .i8 lr::rest).toArray T (0,0)))
 (hg:w.heap[g]?=some (.cells cur 5 (0,0))) (hlc:l≤cap) (hcm:cap≤maxLen) (hcs:cur.size=cap) (hgb:g≠b)
 (hn:1≤cs.length) (hroom:cs.length≤cap-l) (hab:a.block≠b) (hsrc:∀j v,cs[j]?=some v→w.cell? (a.add j)=some v) (h1c:∀v∈cs,v.oneCell'=true):
 Calls Tryz.prog 142 #[.pointer (some ⟨b,0,none⟩), .slice (some a) cs.length c] w fun e w'=>e= .returned (.tuple #[.int .i64 cs.length, .nilIface])∧Wrote w w' b g 0 rest T (l+cs.length) (cur.toList.take l++cs):=by
 have c2:w.cell? ⟨b,2,none⟩=some (.int .i8 lr):=by rw[Lib.cell_of_heap hbk];rfl
 have f2:w.frozen? ⟨b,2,none⟩=false:=Lib.frozen_of_heap hbk 2
 obtain⟨W1,hW1⟩:∃W1,W1=w.setCell ⟨b,2,none⟩ (.int .i8 0):=⟨_,rfl⟩
 have hbk1:W1.heap[b]?=some (.cells (Value.slice (some ⟨g,0,none⟩) l cap::Value.int .i64 0::Value.int .i8 0::rest).toArray T (0,0)):=by rw[hW1];exact cells_set w hbk 2 _
 have c0:W1.cell? ⟨b,0,none⟩=some (.slice (some ⟨g,0,none⟩) l cap):=by rw[Lib.cell_of_heap hbk1];rfl
 have f0:W1.frozen? ⟨b,0,none⟩=false:=Lib.frozen_of_heap hbk1 0
 obtain⟨n,hnn⟩:∃n,cs.length=n:=⟨_,rfl⟩
 rw[hnn]at hn hroom⊢
 obtain⟨W2,hW2⟩:∃W2,W2=W1.setCell ⟨b,0,none⟩ (.slice (some ⟨g,0,none⟩) (l+n) cap):=⟨_,rfl⟩
 have hbk2:W2.heap[b]?=some (.cells (Value.slice (some ⟨g,0,none⟩) (l+n) cap::Value.int .i64 0::Value.int .i8 0::rest).toArray T (0,0)):=by rw[hW2];exact cells_set _ hbk1 0 _
 have d0:W2.cell? ⟨b,0,none⟩=some (.slice (some ⟨g,0,none⟩) (l+n) cap):=by rw[Lib.cell_of_heap hbk2];rfl
 have hbel:Bel (fun k=>k=b∨k=g∨w.heap.size≤k) w W2:=by rw[hW2,hW1];exact(bel_set w b 2 (.int .i8 0) _ (.inl rfl)).trans (bel_set _ b 0 _ _ (.inl rfl))
 have hg2:W2.heap[g]?=some (.cells cur 5 (0,0)):=by rw[hW2,Below.heap_setCell _ _ _ _ hgb,hW1,Below.heap_setCell _ _ _ _ hgb];exact hg
 have hT:=tryGrow_room b _ l cap n _ c0 f0 hlc hcm hroom
 rw[←hW2]at hT
 have hsrc2:∀j v,cs[j]?=some v→W2.cell? (a.add j)=some v:=fun j v hj=>by
  have h:=hsrc j v hj
  have e:∀(k:Nat) (x:Value),(a.add j).block≠(Addr.block ⟨b,k,none⟩):=fun k x=>(by rw[Lib.block_add];exact hab)
  rw[hW2,hW1]
  exact(World.cell?_of_block (Below.heap_setCell _ _ _ _ (e 0 v))).trans ((World.cell?_of_block (Below.heap_setCell _ _ _ _ (e 2 v))).trans h)
 have hcp:=run_copy_row (P:=Tryz.prog) W2 29 29 3 5 g l n (cap-l) a n c cur 5 cs (by kernel_rfl) hinfo5 hg2 (by rw[hnn];exact(Nat.min_self n).symm) hsrc2 (by rw[hnn];omega) h1c
 rw[hnn]at hcp
 have hne:¬cap=l:=by omega
 have he:=wrote_end (cs:=cs) (l:=l) (g:=g) (old:=cur.toList.take l) (by rw[hnn];exact hbk2) hg2 hcs (by rw[hnn];omega) hcm rfl hgb (.inl rfl) hbel
 rw[hnn,List.append_assoc]at he
 have e144:=enter 144 Tryz.func144 (by kernel_rfl) (by kernel_rfl)
 have e145:=enter 145 Tryz.func145 (by kernel_rfl) (by kernel_rfl)
 have hcm':=hcm
 unfold maxLen at hcm'
 obtain⟨mixed,t5,a5,z5,v5,t66,a66,z66,v66,t3,a3,z3,v3,t4,a4,z4,v4,t0,a0,z0,v0,t29,a29,z29,v29,t122,a122,z122,v122,t119,a119,z119,v119,a124,z124,v124⟩:=facts
 rw[hW1]at hT
 clear hbk1 hbk2 hbel hg2 hsrc2 hsrc c0 f0 hW2 hW1 W1 h1c hnn hroom hab hgb hcs hg
 go_enter Tryz.func142,Tryz.ntmps142
 go_wp2_with (go_at_call 144;refine hT.mono ?_;rintro e w' ⟨rfl,rfl⟩)
 all_goals(go_ret2;exact⟨rfl,he⟩)
def Buf(w:World)(b:Nat)(ao:Option Addr)(l cap:Nat)(bs:List Value):Prop:=
 (ao=none∧l=0∧cap=0∧bs=[])∨∃(g:Nat) (cur:Array Value),ao=some ⟨g,0,none⟩∧g≠b∧w.heap[g]?=some (.cells cur 5 (0,0))∧cur.size=cap∧cur.toList.take l=bs
theorem grow_any(b:Nat)(ao:Option Addr)(l cap n:Nat)(lr:Int)(bs rest:List Value)(T:TypeId)(w:World)
 (hbk:w.heap[b]?=some (.cells (Value.slice ao l cap::Value.int .i64 0::Value.int .i8 lr::rest).toArray T (0,0)))
 (hb:Buf w b ao l cap bs) (hlc:l≤cap) (hcm:cap≤maxLen) (h1:∀v∈bs,v.oneCell'=true) (hn:1≤n) (hroom:cap-l<n) (hlim:l+n≤140737488355328):
 Calls Tryz.prog 145 #[.pointer (some ⟨b,0,none⟩), .int .i64 n] w fun e w'=>e= .returned (.int .i64 l)∧Grown w w' b lr rest T l n bs:=by
 rcases hb with⟨rfl,rfl,rfl,rfl⟩|⟨g,cur,rfl,hgb,hg,hcs,rfl⟩
 ·rcases Nat.lt_or_ge 64 n with h|h
  ·exact grow_nil_big b n lr rest T w hbk h (by omega)
  ·exact grow_nil_small b n lr rest T w hbk hn h
 ·rcases Nat.eq_zero_or_pos l with rfl|h
  ·exact grow_row0 b g cap n lr cur rest T w hbk hg hlc hcm hcs h1 hn hroom hlim
  ·exact grow_row b g l cap n lr cur rest T w hbk hg h hlc hcm hcs h1 hn hroom hlim
set_option maxHeartbeats 1600000 in
set_option maxRecDepth 100000 in
theorem Write_grow(b:Nat)(ao:Option Addr)(l cap:Nat)(lr:Int)(bs:List Value)(a:Addr)(c:Nat)(cs:List Value)(rest:List Value)(T:TypeId)(w:World)
 (hbk:w.heap[b]?=some (.cells (Value.slice ao l cap::Value.int .i64 0::Value.int .i8 lr::rest).toArray T (0,0)))
 (hb:Buf w b ao l cap bs) (hlc:l≤cap) (hcm:cap≤maxLen) (h1:∀v∈bs,v.oneCell'=true)
 (hn:1≤cs.length) (hroom:cap-l<cs.length) (hlim:l+cs.length≤140737488355328) (hab:a.block≠b) (halt:a.block<w.heap.size) (hsrc:∀j v,cs[j]?=some v→w.cell? (a.add j)=some v) (h1c:∀v∈cs,v.oneCell'=true) (g0:Nat):
 Calls Tryz.prog 142 #[.pointer (some ⟨b,0,none⟩), .slice (some a) cs.length c] w fun e w'=>e= .returned (.tuple #[.int .i64 cs.length, .nilIface])∧Wrote w w' b g0 0 rest T (l+cs.length) (bs++cs):=by
 have hbw:=Lib.lt_of_heap hbk
 have c2:w.cell? ⟨b,2,none⟩=some (.int .i8 lr):=by rw[Lib.cell_of_heap hbk];rfl
 have f2:w.frozen? ⟨b,2,none⟩=false:=Lib.frozen_of_heap hbk 2
 have hbk1:(w.setCell ⟨b,2,none⟩ (.int .i8 0)).heap[b]?=some (.cells (Value.slice ao l cap::Value.int .i64 0::Value.int .i8 0::rest).toArray T (0,0)):=cells_set w hbk 2 _
 have c0:(w.setCell ⟨b,2,none⟩ (.int .i8 0)).cell? ⟨b,0,none⟩=some (.slice ao l cap):=by rw[Lib.cell_of_heap hbk1];rfl
 have hb1:Buf (w.setCell ⟨b,2,none⟩ (.int .i8 0)) b ao l cap bs:=by
  rcases hb with h|⟨g,cur,h1,h2,h3,h4⟩
  ·exact .inl h
  ·exact .inr ⟨g,cur,h1,h2,by rw[Below.heap_setCell _ _ _ _ h2];exact h3,h4⟩
 obtain⟨n,hnn⟩:∃n,cs.length=n:=⟨_,rfl⟩
 rw[hnn]at hn hroom hlim⊢
 have hT:=tryGrow_none b ao l cap n _ c0 hlc hcm hroom
 have hG:=grow_any b ao l cap n 0 bs rest T _ hbk1 hb1 hlc hcm h1 hn hroom hlim
 have hS:=bel_set w b 2 (.int .i8 0) (fun k=>k=b∨k=g0∨w.heap.size≤k) (.inl rfl)
 have hsz:(w.setCell ⟨b,2,none⟩ (.int .i8 0)).heap.size=w.heap.size:=by simp[World.setCell]
 have hend:∀W,Grown (w.setCell ⟨b,2,none⟩ (.int .i8 0)) W b 0 rest T l n bs→∃(N cap2:Nat) (cur:Array Value),W.cell? ⟨b,0,none⟩=some (.slice (some ⟨N,0,none⟩) (l+n) cap2)∧l+n≤cap2∧cap2≤2^63-1∧
  (Builtin.copy_ #[29,29] 3 #[.slice (some ⟨N,l,none⟩) n (cap2-l), .slice (some a) n c]).run Tryz.prog W= .ok (goInt n) (W.setRow N (cur.toList.take l++(cs++cur.toList.drop (l+n))).toArray)∧
  Wrote w (W.setRow N (cur.toList.take l++(cs++cur.toList.drop (l+n))).toArray) b g0 0 rest T (l+n) (bs++cs):=by
  rintro W ⟨N,cap2,cells,hN,hgN,hsN,htk,hc2,hm2,hbkW,hbel⟩
  have hNb:N≠b:=by omega
  have hbelW:Bel (fun k=>k=b∨k=g0∨w.heap.size≤k) w W:=hS.trans ⟨hbel.os,hbel.tape,hbel.output,hbel.size,fun k hk=>hbel.block k (fun h=>hk (by rcases h with h|h;exact .inl h;exact .inr (.inr (by omega))))⟩
  have hsrcW:∀j v,cs[j]?=some v→W.cell? (a.add j)=some v:=fun j v hj=>by
   have hblk:(a.add j).block=a.block:=Lib.block_add a j
   have h:=World.cell?_of_block (a:=a.add j) (hbel.block (a.add j).block (fun h=>by rw[hblk]at h;rcases h with h|h;exact hab h;omega))
   rw[h]
   exact(World.cell?_of_block (a:=a.add j) (Below.heap_setCell w ⟨b,2,none⟩ _ _ (by rw[hblk];exact hab))).trans (hsrc j v hj)
  have hcp:=run_copy_row (P:=Tryz.prog) W 29 29 3 5 N l n (cap2-l) a n c cells 5 cs (by kernel_rfl) hinfo5 hgN (by rw[hnn];exact(Nat.min_self n).symm) hsrcW (by rw[hnn];omega) h1c
  rw[hnn,List.append_assoc]at hcp
  have he:=wrote_end (cs:=cs) (l:=l) (g:=g0) (old:=bs) (by rw[hnn];exact hbkW) hgN hsN (by rw[hnn];omega) hm2 htk hNb (.inr (by omega)) hbelW
  rw[hnn,List.append_assoc]at he
  exact⟨N,cap2,cells,by rw[Lib.cell_of_heap hbkW];rfl,hc2,hm2,hcp,he⟩
 have e144:=enter 144 Tryz.func144 (by kernel_rfl) (by kernel_rfl)
 have e145:=enter 145 Tryz.func145 (by kernel_rfl) (by kernel_rfl)
 have hcm':=hcm
 unfold maxLen at hcm'
 clear c0 hbk1 hb1 hS hsz h1c hnn hroom hab hb h1 hsrc halt hcm hbk
 obtain⟨mixed,t5,a5,z5,v5,t66,a66,z66,v66,t3,a3,z3,v3,t4,a4,z4,v4,t0,a0,z0,v0,t29,a29,z29,v29,t122,a122,z122,v122,t119,a119,z119,v119,a124,z124,v124⟩:=facts
 go_enter Tryz.func142,Tryz.ntmps142
 go_wp2_with (go_at_call 144;refine hT.mono ?_;rintro e w' ⟨rfl,rfl⟩)
 go_wp2_with (go_at_call 145;refine hG.mono ?_)
 rintro e W ⟨rfl,hW⟩
 obtain⟨N,cap2,cur,d0,hx1,hx2,hcp,he⟩:=hend W hW
 have hne:¬cap2=l:=by omega
 clear hend hW hG hT
 go_wp2
 all_goals(go_ret2;exact⟨rfl,he⟩)
def wfn(v1:List Int×Int×Int×Unit)(v2:List Int):Option ((Int×Unit×((List Int)×Int×Int×Unit)×Unit)):=if v1.2.1=0∧v1.1.length+v2.length≤140737488355328 then some ((v2.length:Int),(),(v1.1++v2,0,0,()),())else none
def bv(xs:List Int):List Value:=xs.map (Value.int .u8)
theorem bv_one(xs:List Int):∀v∈bv xs,v.oneCell'=true:=fun v h=>by
 obtain⟨x, -,rfl⟩:=List.mem_map.mp h;rfl
theorem take_of_RB{Fz:Nat→Prop}{w:World}{vs:Array Value}{xs:List Int}(h:∀(i:Nat) (x:Int),xs[i]?=some x→∃es,RP Fz w (.int .u8) x es∧es.length=(Kd.int .u8).size∧∀(j:Nat) u,es[j]?=some u→vs[i*(Kd.int .u8).size+j]?=some u)(hl:xs.length≤vs.size):
 vs.toList.take xs.length=bv xs:=by
 apply List.ext_getElem?
 intro i
 rcases Nat.lt_or_ge i xs.length with hi|hi
 ·rw[List.getElem?_take_of_lt hi]
  obtain⟨es,h1, -,h3⟩:=h i xs[i] (List.getElem?_eq_getElem hi)
  simp only[RP]at h1
  subst h1
  have:=h3 0 _ rfl
  simp only[Kd.size,Nat.mul_one,Nat.add_zero]at this
  rw[Array.getElem?_toList,this]
  simp[bv,List.getElem?_map,List.getElem?_eq_getElem hi]
 ·rw[List.getElem?_eq_none (by rw[List.length_take];omega),List.getElem?_eq_none (by simpa[bv]using hi)]
theorem RB_of_take{Fz:Nat→Prop}{w:World}{vs:Array Value}{xs:List Int}{m:Nat}(h:vs.toList.take m=bv xs)(hm:m=xs.length):
 ∀(i:Nat) (x:Int),xs[i]?=some x→∃es,RP Fz w (.int .u8) x es∧es.length=(Kd.int .u8).size∧∀(j:Nat) u,es[j]?=some u→vs[i*(Kd.int .u8).size+j]?=some u:=by
 intro i x hx
 refine⟨[.int .u8 x],by simp only[RP],rfl,fun j u hj=> ?_⟩
 have hi:i<xs.length:=by
  rcases Nat.lt_or_ge i xs.length with hi|hi
  ·exact hi
  ·rw[List.getElem?_eq_none hi]at hx;cases hx
 have e:(vs.toList.take m)[i]?=(bv xs)[i]?:=by rw[h]
 rw[List.getElem?_take_of_lt (by omega),Array.getElem?_toList]at e
 simp only[bv,List.getElem?_map,hx,Option.map_some]at e
 match j,hj with
 |0,hj=>simp only[Kd.size,Nat.mul_one,Nat.add_zero];rw[e];exact hj
 |j+1,hj=>simp at hj
abbrev bx:Sh:= .box [.row 5 (.int .u8), .k (.int .i64), .k (.int .i8)]
abbrev wcon:Con2:=⟨142,[.box [.row 5 (.int .u8), .k (.int .i64), .k (.int .i8)], .k (.list (.int .u8))],[⟨[.k (.int .i64), .nili],[some (.box [.row 5 (.int .u8), .k (.int .i64), .k (.int .i8)]),none]⟩],fun x=>wfn x.1 x.2.1⟩
theorem mkBox{pi:Nat→HI}{Fz:Nat→Prop}{w:World}{b:Nat}{rest:List Value}{T:TypeId}{s:Value}{off lr:Int}{zs:List Int}{ir:HI}
 (hbk:w.heap[b]?=some (.cells (s::Value.int .i64 off::Value.int .i8 lr::rest).toArray T (0,0))) (hio:RIo ir s) (hrb:RB (fun _=>ir) Fz w 0 (.arr 5 (.int .u8) zs)) (hv:ir.virt=true→ir.blk=0∧ir.cap=0)
 (hs:s.oneCell'=true):
 RS pi Fz w bx ((zs,off,lr,()):List Int×Int×Int×Unit) (.pointer (some ⟨b,0,none⟩)) [⟨b,0,0,false⟩,ir]:=by
 simp only[RS,RSs]
 refine⟨⟨b,0,0,false⟩,[ir],[s, .int .i64 off, .int .i8 lr],T,rfl,rfl,rfl,rfl,rfl,⟨rest,hbk⟩, ?_,s,_,[ir],[],rfl,rfl,⟨ir,rfl,hio,hrb,hv⟩,_,_,[],[],rfl,rfl,⟨rfl, ?_⟩,_,_,[],[],rfl,rfl,⟨rfl, ?_⟩,rfl,rfl⟩
 ·intro u hu
  simp only[List.mem_cons,List.not_mem_nil,or_false]at hu
  rcases hu with rfl|rfl|rfl
  ·exact hs
  ·rfl
  ·rfl
 ·simp only[RV,Kd.isAgg,RP];simp
 ·simp only[RV,Kd.isAgg,RP];simp
theorem fin{w w':World}{Fz:Nat→Prop}{pi:Nat→HI}{b:Nat}{rest:List Value}{T:TypeId}{s:Value}{zs:List Int}{ir ir':HI}{v2:Value}{n:Int}
 (hbk:w'.heap[b]?=some (.cells (s::Value.int .i64 0::Value.int .i8 0::rest).toArray T (0,0))) (hio:RIo ir' s) (hrb:RB (fun _=>ir') Fz w' 0 (.arr 5 (.int .u8) zs)) (hv:ir'.virt=true→ir'.blk=0∧ir'.cap=0)
 (hs:s.oneCell'=true) (hbel:Bel (ownW w [⟨b,0,0,false⟩,ir]) w w') (hlt:∀k,Fz k→k<w.heap.size) (hb:b<w'.heap.size) (hFb:¬Fz b)
 (hir:ir'.virt=false→ir'.blk<w'.heap.size∧ir'.blk≠b∧¬Fz ir'.blk∧ownW w [⟨b,0,0,false⟩,ir] ir'.blk):
 Bel (ownW w [⟨b,0,0,false⟩,ir]) w w'∧∃(Fz':Nat→Prop) (os':List HI),(∀b,Fz b→Fz' b)∧(∀k,Fz' k→Fz k∨ownW w [⟨b,0,0,false⟩,ir] k)∧(∀b,Fz' b→b<w'.heap.size)∧
  AltR pi Fz' w' [.pointer (some ⟨b,0,none⟩),v2] wcon.alts ((n,(),(zs,0,0,()),()):Int×Unit×(List Int×Int×Int×Unit)×Unit) (.tuple #[.int .i64 n, .nilIface]) os'∧OsOk Fz' w' os'∧∀i∈os',i.virt=false→ownW w [⟨b,0,0,false⟩,ir] i.blk:=by
 refine⟨hbel,Fz,[⟨b,0,0,false⟩,ir'],fun _ h=>h,fun _ h=> .inl h,fun k h=>Nat.lt_of_lt_of_le (hlt k h) hbel.size, ?_,⟨?_, ?_⟩, ?_⟩
 ·show altOne pi Fz w' _ _ _ _ _
  refine⟨[.int .i64 n, .nilIface],rfl,rfl, ?_⟩
  show RSs pi Fz w' [.k (.int .i64), .nili,bx] _ [.int .i64 n, .nilIface, .pointer (some ⟨b,0,none⟩)] _
  rw[RSs,]
  refine⟨_,_,[],[⟨b,0,0,false⟩,ir'],rfl,rfl, ?_, ?_⟩
  ·simp only[RS,RV,Kd.isAgg,RP];simp
  rw[RSs]
  refine⟨_,_,[],[⟨b,0,0,false⟩,ir'],rfl,rfl, ?_, ?_⟩
  ·simp only[RS];simp
  rw[RSs]
  refine⟨_,_,[⟨b,0,0,false⟩,ir'],[],rfl,rfl,mkBox hbk hio hrb hv hs, ?_⟩
  simp only[RSs];simp
 ·intro i hi hvi
  simp only[List.mem_cons,List.not_mem_nil,or_false]at hi
  rcases hi with rfl|rfl
  ·exact⟨hb,hFb⟩
  ·exact⟨(hir hvi).1,(hir hvi).2.2.1⟩
 ·intro j k a c hj hk ha hc he
  match j,k,hj,hk with
  |0,0,_,_=>rfl
  |1,1,_,_=>rfl
  |0,1,hj,hk=>simp at hj hk;subst hj;subst hk;exact absurd he.symm (hir hc).2.1
  |1,0,hj,hk=>simp at hj hk;subst hj;subst hk;exact absurd he (hir ha).2.1
  |j+2,_,hj,_=>simp at hj
  |0,k+2,_,hk=>simp at hk
  |1,k+2,_,hk=>simp at hk
 ·intro i hi hvi
  simp only[List.mem_cons,List.not_mem_nil,or_false]at hi
  rcases hi with rfl|rfl
  ·exact .inr ⟨_,List.mem_cons_self,rfl,rfl⟩
  ·exact(hir hvi).2.2.2
theorem heapLt{w:World}{b:Nat}{o:Obj}(h:w.heap[b]?=some o):b<w.heap.size:=by
 rcases Nat.lt_or_ge b w.heap.size with h'|h'
 ·exact h'
 ·rw[Array.getElem?_eq_none h']at h;cases h
theorem wend{w w':World}{Fz:Nat→Prop}{pi:Nat→HI}{b g m:Nat}{rest:List Value}{T:TypeId}{zs:List Int}{ir:HI}{v2:Value}{n:Int}
 (hW:Wrote w w' b g 0 rest T m (bv zs)) (hm:m=zs.length) (hlt:∀k,Fz k→k<w.heap.size) (hb:b<w.heap.size) (hFb:¬Fz b) (hgb:g≠b) (hFg:¬Fz g) (hog:ownW w [⟨b,0,0,false⟩,ir] g):
 Bel (ownW w [⟨b,0,0,false⟩,ir]) w w'∧∃(Fz':Nat→Prop) (os':List HI),(∀b,Fz b→Fz' b)∧(∀k,Fz' k→Fz k∨ownW w [⟨b,0,0,false⟩,ir] k)∧(∀b,Fz' b→b<w'.heap.size)∧
  AltR pi Fz' w' [.pointer (some ⟨b,0,none⟩),v2] wcon.alts ((n,(),(zs,0,0,()),()):Int×Unit×(List Int×Int×Int×Unit)×Unit) (.tuple #[.int .i64 n, .nilIface]) os'∧OsOk Fz' w' os'∧∀i∈os',i.virt=false→ownW w [⟨b,0,0,false⟩,ir] i.blk:=by
 obtain⟨g',cap',cur,hg',hgw,hcs,hmc,hcm,htk,hbk,hbel⟩:=hW
 have hown:ownW w [⟨b,0,0,false⟩,ir] g':=by
  rcases hg' with h|h
  ·exact h▸hog
  ·exact .inl h
 refine fin (ir':=⟨g',cap',m,false⟩) hbk (.inr ⟨rfl,rfl⟩) ?_ (fun h=>by cases h) rfl ⟨hbel.os,hbel.tape,hbel.output,hbel.size,fun k hk=>hbel.block k (fun h=>hk ?_)⟩ hlt (Nat.lt_of_lt_of_le hb hbel.size) hFb (fun _=>⟨heapLt hgw, ?_, ?_,hown⟩)
 ·exact⟨hm, .inr ⟨rfl,cur,hgw,by show zs.length≤cap';omega,hcm,by show cur.size=cap'*1;omega,RB_of_take htk hm⟩⟩
 ·rcases h with h|h|h
  ·exact .inr ⟨_,List.mem_cons_self,rfl,h.symm⟩
  ·exact h▸hog
  ·exact .inl h
 ·rcases hg' with h|h
  ·exact fun e=>hgb (h.symm.trans e)
  ·exact fun e=>by have:g'=b:=e;omega
 ·rcases hg' with h|h
  ·exact h▸hFg
  ·exact fun hf=>by have:g'<w.heap.size:=hlt _ hf;omega
theorem write_sound{gl:List Gl}:wcon.Sound Tryz.prog gl:=by
 rintro w Fz pi ⟨⟨xs,off,lr,u1⟩,ys,u2⟩ vals os y hlt hgok hrs hok hfn
 obtain⟨v,q,o1,o2,rfl,rfl,hbox,hrs2⟩:=hrs
 obtain⟨v2,q2,o3,o4,rfl,rfl,hsl,hnil⟩:=hrs2
 obtain⟨rfl,rfl⟩:=hnil
 simp only[RS]at hbox hsl
 obtain⟨ib,r,vs,T,rfl,hv,hil,hic,rfl,⟨rest,hbk⟩,h1,hin⟩:=hbox
 obtain⟨rfl,hsl⟩:=hsl
 simp only[RSs,RS]at hin
 obtain⟨s,q1,p1,p2,rfl,rfl,⟨ir,rfl,hio,hrb,hrv⟩,z,q2,p3,p4,rfl,rfl,⟨rfl,hz⟩,z2,q3,p5,p6,rfl,rfl,⟨rfl,hz2⟩,rfl,rfl⟩:=hin
 simp only[RV,Kd.isAgg,RP]at hz hz2 hsl
 obtain⟨b,cap0,len0,vb⟩:=ib
 simp only at hv hil hic
 subst hv hil hic
 simp only[Bool.false_eq_true,if_false,List.cons.injEq,and_true]at hz hz2 hsl
 subst hz hz2
 obtain⟨v2',hv2,hL⟩:=hsl
 subst hv2
 obtain⟨a,c,rfl,hyc,hL⟩:=hL
 have hfn':wfn (xs,off,lr,()) ys=some y:=hfn
 unfold wfn at hfn'
 split at hfn'
 rotate_left
 ·cases hfn'
 rename_i hc
 obtain⟨hoff,hlim⟩:=hc
 simp only at hoff hlim
 subst hoff
 have hy:=Option.some.inj hfn'
 subst hy
 simp only[List.append_nil,List.cons_append,List.nil_append,List.singleton_append]at hok hbk⊢
 have hb:b<w.heap.size:=heapLt hbk
 obtain⟨hbl,hFb⟩:=hok.lt ⟨b,0,0,false⟩ List.mem_cons_self rfl
 have henter:(callFunc 142 #[.pointer (some ⟨b,0,none⟩), .slice a ys.length c]).run Tryz.prog w= .ok (.enter 142 #[.pointer (some ⟨b,0,none⟩), .slice a ys.length c]) w:=enter 142 Tryz.func142 (by kernel_rfl) (by kernel_rfl) _ w
 refine .inr ⟨henter, ?_⟩
 have hbuf:∃(ao:Option Addr) (cap g:Nat),s= .slice ao xs.length cap∧xs.length≤cap∧cap≤maxLen∧g≠b∧¬Fz g∧ownW w [⟨b,0,0,false⟩,ir] g∧(ir.virt=true→ir.blk=0∧ir.cap=0)∧
  ((ao=none∧xs=[]∧cap=0∧ir.virt=true∧g=w.heap.size)∨∃cur:Array Value,ao=some ⟨g,0,none⟩∧w.heap[g]?=some (.cells cur 5 (0,0))∧cur.size=cap∧cur.toList.take xs.length=bv xs∧ir=⟨g,cap,xs.length,false⟩):=by
  simp only[RB]at hrb
  obtain⟨hlen,⟨hvt,hx⟩|⟨hvf,vs,hheap,hxl,hcm,hsz,hall⟩⟩:=hrb
  ·rcases hio with⟨_,rfl⟩|⟨h,_⟩
   ·subst hx
    exact⟨none,0,w.heap.size,rfl,Nat.le_refl _,Nat.zero_le _,by omega,fun h=>by have:=hlt _ h;omega, .inl (Nat.le_refl _),hrv, .inl ⟨rfl,rfl,rfl,hvt,rfl⟩⟩
   ·rw[hvt]at h;cases h
  ·rcases hio with⟨h,_⟩|⟨_,rfl⟩
   ·rw[hvf]at h;cases h
   ·obtain⟨gb,gc,gl,gv⟩:=ir
    simp only at hlen hvf hheap hxl hcm hsz hall
    subst hvf
    subst hlen
    obtain⟨hgl,hgF⟩:=hok.lt ⟨gb,gc,xs.length,false⟩ (by simp) rfl
    have hne:gb≠b:=fun e=>by
     have:=hok.ne 0 1 _ _ rfl rfl rfl rfl e.symm
     cases this
    simp only[Kd.size,Nat.mul_one]at hsz
    exact⟨some ⟨gb,0,none⟩,gc,gb,rfl,hxl,hcm,hne,hgF, .inr ⟨⟨gb,gc,xs.length,false⟩,by simp,rfl,rfl⟩,fun h=>(by cases h), .inr ⟨vs,rfl,hheap,hsz,take_of_RB hall (by omega),rfl⟩⟩
 obtain⟨ao,cap,g,rfl,hlc,hcm,hgb,hFg,hog,hrv',hbuf⟩:=hbuf
 rcases Nat.eq_zero_or_pos ys.length with hy0|hy0
 ·--nothing to write
  have hys:ys=[]:=List.eq_nil_of_length_eq_zero hy0
  subst hys
  refine(Write_zero b ao xs.length cap lr a c rest T w hbk hlc hcm).mono ?_
  rintro e w' ⟨rfl,hw'⟩
  refine⟨_,rfl, ?_⟩
  have hbk1:=cells_set w hbk 2 (.int .i8 0)
  have hbk2:=cells_set _ hbk1 0 (.slice ao xs.length cap)
  rw[←hw']at hbk2
  have hbel:Bel (ownW w [⟨b,0,0,false⟩,ir]) w w':=by
   rw[hw']
   exact(bel_set w b 2 _ _ (.inr ⟨_,List.mem_cons_self,rfl,rfl⟩)).trans (bel_set _ b 0 _ _ (.inr ⟨_,List.mem_cons_self,rfl,rfl⟩))
  have hgw:∀o,w.heap[g]?=some o→w'.heap[g]?=some o:=fun o h=>by
   rw[hw',Below.heap_setCell _ _ _ _ hgb,Below.heap_setCell _ _ _ _ hgb];exact h
  have hsz:w'.heap.size=w.heap.size:=by rw[hw'];simp[World.setCell]
  show _∧∃_ _,_∧_∧_∧AltR _ _ _ _ wcon.alts ((0,(),(xs++[],0,0,()),()):Int×Unit×(List Int×Int×Int×Unit)×Unit) _ _∧_
  rw[List.append_nil]
  rcases hbuf with⟨rfl,rfl,rfl,hvt,rfl⟩|⟨cur,rfl,hg,hcs,htk,rfl⟩
  ·refine fin (ir':=ir) hbk2 (.inl ⟨hvt,rfl⟩) ⟨?_, .inl ⟨hvt,rfl⟩⟩ hrv' rfl hbel hlt (by omega) hFb (fun h=>by rw[hvt]at h;cases h)
   simp only[RB]at hrb;exact hrb.1
  ·refine fin (ir':=⟨g,cap,xs.length,false⟩) hbk2 (.inr ⟨rfl,rfl⟩) ⟨rfl, .inr ⟨rfl,cur,hgw _ hg,hlc,hcm,by show cur.size=cap*1;omega,RB_of_take htk rfl⟩⟩ hrv' rfl hbel hlt (by omega) hFb (fun _=>⟨by have:=heapLt (hgw _ hg);exact this,hgb,hFg,hog⟩)
 ·--bytes to write
  rcases hL with rfl|⟨sb,so,rfl,hFs,hel⟩
  ·cases hy0
  have hys:(bv ys).length=ys.length:=by simp[bv]
  have hsrc:∀(j:Nat) v,(bv ys)[j]?=some v→w.cell? ((⟨sb,so,none⟩:Addr).add j)=some v:=fun j v hj=>by
   simp only[bv,List.getElem?_map]at hj
   cases hq:ys[j]? with
   |none=>rw[hq]at hj;cases hj
   |some x=>
    rw[hq]at hj
    obtain⟨es,he, -,hli⟩:=hel j x hq
    subst he
    have:=hli 0 _ rfl
    simp only[Nat.add_zero,Kd.size,Nat.mul_one]at this
    have hj':=Option.some.inj hj
    subst hj'
    rw[show(⟨sb,so,none⟩:Addr).add j=⟨sb,so+j,none⟩from by simp[Addr.add]]
    exact this
  have hsb:sb≠b:=fun e=>hFb (e▸hFs)
  have hall:bv xs++bv ys=bv (xs++ys):=by simp[bv]
  have hlen:xs.length+ys.length=(xs++ys).length:=by simp
  rcases Nat.lt_or_ge (cap-xs.length) ys.length with hroom|hroom
  ·have hB:Buf w b ao xs.length cap (bv xs):=by
    rcases hbuf with⟨rfl,rfl,rfl,hvt,rfl⟩|⟨cur,rfl,hg,hcs,htk,rfl⟩
    ·exact .inl ⟨rfl,rfl,rfl,rfl⟩
    ·exact .inr ⟨g,cur,rfl,hgb,hg,hcs,htk⟩
   have h:=Write_grow b ao xs.length cap lr (bv xs) ⟨sb,so,none⟩ c (bv ys) rest T w hbk hB hlc hcm (bv_one xs) (by omega) (by omega) (by omega) hsb (hlt _ hFs) hsrc (bv_one ys) g
   rw[hys,hall]at h
   refine h.mono ?_
   rintro e w' ⟨rfl,hW⟩
   exact⟨_,rfl,wend hW hlen hlt hb hFb hgb hFg hog⟩
  ·rcases hbuf with⟨rfl,rfl,rfl,hvt,rfl⟩|⟨cur,rfl,hg,hcs,htk,rfl⟩
   ·exact absurd hy0 (by have:ys.length≤0-0:=hroom;omega)
   have h:=Write_room b g xs.length cap lr cur ⟨sb,so,none⟩ c (bv ys) rest T w hbk hg hlc hcm hcs hgb (by omega) (by omega) hsb hsrc (bv_one ys)
   rw[hys,htk,hall]at h
   refine h.mono ?_
   rintro e w' ⟨rfl,hW⟩
   exact⟨_,rfl,wend hW hlen hlt hb hFb hgb hFg hog⟩
end Go.Proofs.YtllnonlmibanfaaGreatDoor.WR
