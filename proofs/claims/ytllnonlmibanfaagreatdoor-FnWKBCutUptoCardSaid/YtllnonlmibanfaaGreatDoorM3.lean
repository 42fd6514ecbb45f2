/- Texts of the proof, merged: Av12 Av17 Av26 Av18 Av13 Av14 Av15 Av16 Av19 Av20 Av21 Av25 Av31 Av32. -/
import Derived.Test.YtllnonlmibanfaaGreatDoorM2
import Derived.OpenShut
import Derived.ProofKit
import Derived.SizedLaws
import Derived.Carry
import Derived.WalkKit
import Derived.ShutString
import Derived.ChangeOld
import Derived.Recover
import Derived.Laws.Externs
import Derived.KernelRfl
set_option linter.unusedVariables false
set_option linter.unusedSimpArgs false
set_option linter.unusedSectionVars false
namespace Go.Av
open Go Go.RowKit
section
variable {R:Type} {P:Program} {w0:Root} {Fz0:Nat→Prop} {ι:Nat→HI} {Fz:Nat→Prop} {H:List (Nat×AB)} {w:World}
theorem OpGives.toWp{o:Oper}{a:Act}{v:AV}{st':St}(h:OpGives P o a w fun v' w'=>∃ι' Fz',Behind w0 Fz0 ι' Fz' st' a w'∧RV ι' Fz' w' v v'):Wp P w0 Fz0 o a w v st':=by
 intro K Q hK
 refine h.wp ?_
 rintro v' w' ⟨ι',Fz',h1,h2⟩
 exact hK v' a w' ι' Fz' rfl h1 h2
theorem nan_chosen(t:Nat):NanB ((t%2)*2^63+0x7ff0000000000000+1+(t/2)%(2^52-1)):=by
 have hr:(Ieee.double.read ((t%2)*2^63+0x7ff0000000000000+1+(t/2)%(2^52-1))).isNaN=true:=by
  have hm:=Nat.mod_lt (t/2) (show 0<2^52-1 by decide)
  have hm2:=Nat.mod_lt t (show 0<2 by decide)
  generalize(t/2)%(2^52-1)=q at hm
  generalize t%2=p at hm2
  unfold Ieee.Format.read
  have h1:Ieee.double.signWeight=9223372036854775808:=by decide+kernel
  have h2:Ieee.double.infRung=9218868437227405312:=by decide+kernel
  have h3:Ieee.double.binade=4503599627370496:=by decide+kernel
  simp only[h1,h2,h3]
  have hp:p=0∨p=1:=by omega
  rcases hp with rfl|rfl<;>(repeat' split)<;>first|rfl|(exfalso;omega)
 intro m
 cases hn:Ieee.double.read ((t%2)*2^63+0x7ff0000000000000+1+(t/2)%(2^52-1))with
 |nan s t=>constructor<;>(unfold Ieee.Format.order;rw[hn];cases Ieee.double.read m<;>rfl)
 |number _ _ _=>rw[hn]at hr;cases hr
 |infinity _=>rw[hn]at hr;cases hr
theorem mul_invalid{P:Program}(w:World)(t:TypeId)(m n:Nat)(h:Ieee.double.mul m n=none):∃q,(Go.binOp BinOp.mul t (Value.float .f64 m) (Value.float .f64 n)).run P w= .ok (Value.float .f64 q) w.drew∧NanB q:=by
 have h':FloatKind.f64.format.mul m n=none:=h
 refine⟨_, ?_,nan_chosen (w.tape w.drawn (.nanBits .f64 m n))⟩
 simp[binOp,Op.floatArith,h',run_choose_drew,Question.forced,Question.cut]
theorem Behind.drew1{st:St}{a:Act}(b:Behind w0 Fz0 ι Fz st a w):Behind w0 Fz0 ι Fz st a w.drew:=by
 have m:=b.2.2
 have hw:∀k:Nat,w.drew.heap[k]?=w.heap[k]?:=fun _=>rfl
 exact⟨fun t=>RV_mono (fun k _=>hw k) (fun _ h=>h) _ _ (fun _ _=>rfl) (b.1 t),RD_mono (fun k _=>hw k) (fun _ h=>h) _ _ (fun _ _=>rfl) b.2.1,
  ⟨m.below.trans ⟨rfl,rfl,rfl,Nat.le_refl _,fun k _=>hw k⟩,m.fz,m.fz0,m.fzn,fun h=>RB_mono (fun k _=>hw k) (fun _ h=>h) (fun _ _=>hw _) (m.rb h),m.sep,m.inj,m.iot,m.cn,m.gz⟩⟩
theorem callX_mb{S:Type}{fr:Bool}{c:Con2}{x:ShDs c.ins}{os:List (Option Nat)}{df:List AV}{d:Nat}{F:AV→List (Nat×AB)→List Nat→Option S}{F':AV→List (Nat×AB)→List Nat→Option R}{G:S→Option R}{r:R}
 (h:∀v ks nf,(F v ks nf).bind G=some r→F' v ks nf=some r) (h1:(callX fr c x os df d F).bind G=some r):callX fr c x os df d F'=some r:=by
 have alt:∀(alts:List Alt) (y:AltD alts) (A:(a:Alt)→ShDs a.all→Option S) (A':(a:Alt)→ShDs a.all→Option R),(∀a dd,(A a dd).bind G=some r→A' a dd=some r)→(altK alts y A).bind G=some r→altK alts y A'=some r:=by
  intro alts
  induction alts with
  |nil=>intro y A A' ha h;simp[altK]at h
  |cons a l ih=>
   cases l with
   |nil=>intro y A A' ha h;exact ha a y h
   |cons b l=>
    intro y A A' ha h
    cases y with
    |inl y=>exact ha a y h
    |inr y=>exact ih y A A' ha h
 unfold callX at h1⊢
 obtain⟨z,hz,h1⟩:=Option.bind_eq_some_iff.1 h1
 obtain⟨y,hy,h2⟩:=Option.bind_eq_some_iff.1 hz
 rw[hy,Option.bind_some]
 refine alt c.alts y _ _ (fun a dd ha=> ?_) (show(altK c.alts y _).bind G=some r by rw[h2];exact h1)
 revert ha
 dsimp only
 generalize(finsOk c.ins a.fins&&_&&_&&_&&_&&_&&_)=b1
 cases b1 with
 |false=>intro ha;cases ha
 |true=>
  rw[cond_true,cond_true]
  generalize subOk c.ins a.fins x _=b2
  cases b2 with
  |false=>intro ha;cases ha
  |true=>
   rw[cond_true,cond_true]
   exact h _ _ _
theorem findC2_mb{S:Type}{f:FuncId}{H:List (Nat×AB)}{vs:List AV}{F:(c:Con2)→ShDs c.ins→List (Option Nat)→List AV→Option S}{F':(c:Con2)→ShDs c.ins→List (Option Nat)→List AV→Option R}{K0:Option S}{K0':Option R}{G:S→Option R}{r:R}
 (h:∀c x os ls,(F c x os ls).bind G=some r→F' c x os ls=some r) (h0:K0.bind G=some r→K0'=some r):∀c2,(findC2 c2 f H vs F K0).bind G=some r→findC2 c2 f H vs F' K0'=some r
 |[],h1=>h0 h1
 |c::l,h1=>by
  unfold findC2 at h1⊢
  cases hb:Nat.beq c.fid f with
  |false=>rw[hb,cond_false]at h1;rw[cond_false];exact findC2_mb h h0 l h1
  |true=>
   rw[hb,cond_true]at h1
   rw[cond_true]
   cases hm:matchShs H c.ins vs with
   |none=>rw[hm]at h1;exact findC2_mb h h0 l h1
   |some p=>rw[hm]at h1;exact h _ _ _ _ h1
theorem findCon_mb{S:Type}{f:FuncId}{H:List (Nat×AB)}{vs:List AV}{F:(c:Con)→HL c.ps→Option S}{F':(c:Con)→HL c.ps→Option R}{G:S→Option R}{r:R}
 (h:∀c x,(F c x).bind G=some r→F' c x=some r):∀cs,(findCon cs f H vs F).bind G=some r→findCon cs f H vs F'=some r
 |[],h1=>by simp[findCon]at h1
 |c::l,h1=>by
  unfold findCon at h1⊢
  cases hb:Nat.beq c.fid f with
  |false=>rw[hb,cond_false]at h1;rw[cond_false];exact findCon_mb h l h1
  |true=>
   rw[hb,cond_true]at h1
   rw[cond_true]
   cases hm:argsD H c.ps vs with
   |none=>rw[hm]at h1;exact findCon_mb h l h1
   |some p=>rw[hm]at h1;exact h _ _ h1
theorem dynK_mb{S:Type}{E:Env}{c:Ce}{F:TypeId→AV→Option S}{F':TypeId→AV→Option R}{G:S→Option R}{r:R}(h:∀t u,(F t u).bind G=some r→F' t u=some r):
 ∀l,(dynK E c F l).bind G=some r→dynK E c F' l=some r
 |[],h1=>by simp[dynK]at h1
 |t::l,h1=>by
  unfold dynK at h1⊢
  cases hb:isT t c with
  |none=>rw[hb]at h1;cases h1
  |some b=>
   rw[hb,Option.bind_some]at h1
   rw[Option.bind_some]
   cases b with
   |false=>exact dynK_mb h l h1
   |true=>
    rw[cond_true]at h1⊢
    unfold kdK at h1⊢
    cases hk:E.kd t with
    |none=>rw[hk]at h1;cases h1
    |some κ=>
     rw[hk]at h1
     dsimp only at h1⊢
     cases ha:aggIs E.P t κ.isAgg with
     |false=>rw[ha]at h1;cases h1
     |true=>
      rw[ha,cond_true]at h1
      rw[cond_true]
      cases hx:asT κ t c with
      |none=>rw[hx]at h1;cases h1
      |some x=>rw[hx,Option.bind_some]at h1;exact h _ _ h1
theorem methK_eq(E:Env)(t:TypeId)(nm:String)(v:AV)(F:FuncId×AV→Option R):methK E t nm v F=(methK E t nm v some).bind F:=by
 unfold methK
 split
 ·split
  ·unfold kdK
   split
   ·simp only[Option.bind_assoc,Option.bind_some]
   ·rfl
  ·rfl
 ·simp only[Option.bind_assoc,Option.bind_some]
theorem methK_mb{S:Type}{E:Env}{t:TypeId}{nm:String}{v:AV}{F:FuncId×AV→Option S}{F':FuncId×AV→Option R}{G:S→Option R}{r:R}(h:∀g,(F g).bind G=some r→F' g=some r)
 (h1:(methK E t nm v F).bind G=some r):methK E t nm v F'=some r:=by
 rw[methK_eq]at h1⊢
 obtain⟨z,hz,h1⟩:=Option.bind_eq_some_iff.1 h1
 obtain⟨g,hg,h3⟩:=Option.bind_eq_some_iff.1 hz
 rw[hg,Option.bind_some]
 exact h g (by rw[h3];exact h1)
theorem castD_pv{κ' κ:Kd}{y:Den κ'}{z:Den κ}(h:castD κ' κ y=some z):AV.pv κ' y= .pv κ z:=by
 unfold castD at h
 split at h
 ·rename_i e;subst e;simp only[Option.some.injEq]at h;subst h;rfl
 ·cases h
theorem frzArgs_free{st:St}:∀ls:List AV,(ls.all fun v=>v.free|| !v.handled)=true→frzArgs st ls=some st
 |[],_=>rfl
 |v::r,h=>by
  rw[List.all_cons,Bool.and_eq_true]at h
  have ih:=frzArgs_free (st:=st) r h.2
  have hv:=h.1
  unfold frzArgs
  split
  ·simp[AV.free,AV.handled]at hv
  ·simp[AV.free,AV.handled]at hv
  ·rw[hv,cond_true,ih]
theorem invP_mb{E:Env}{o:Oper}{st:St}{args:Array Operand}{g:FuncId×AV}{κ:Kd}{K:AV→St→Option R}{r:R}(h:(invP E o st args g κ).bind (fun y=>K (.pv κ y) st)=some r):invW E o st args g K=some r:=by
 unfold invP at h
 unfold invW
 refine findC2_mb (fun c x os ls h=> ?_) (fun h=> ?_) _ h
 ·unfold call2
  cases h1:ownOk os ls with
  |false=>rw[h1]at h;cases h
  |true=>
   cases h2:(allSafe c.alts||ls.all fun v=>v.free|| !v.handled)with
   |false=>rw[h1,h2]at h;cases h
   |true=>
    rw[h1,h2,Bool.true_and,cond_true]at h
    have hst:(bif allSafe c.alts then some st else frzArgs st ls)=some st:=by
     cases h3:allSafe c.alts with
     |true=>rfl
     |false=>rw[h3,Bool.false_or]at h2;exact frzArgs_free ls h2
    rw[cond_true,hst,Option.bind_some]
    refine callX_mb (fun v ks nf hk=> ?_) h
    obtain⟨y,hy,hk2⟩:=Option.bind_eq_some_iff.1 hk
    clear hk h
    split at hy
    ·rw[castD_pv hy];exact hk2
    ·cases hy
 ·refine findCon_mb (fun c x h=> ?_) _ h
  cases h1:c.rs.all Kd.plain with
  |false=>rw[h1]at h;cases h
  |true=>
   rw[h1,cond_true]at h
   rw[cond_true]
   obtain⟨z,hz,h⟩:=Option.bind_eq_some_iff.1 h
   obtain⟨y,hy,h2⟩:=Option.bind_eq_some_iff.1 hz
   rw[hy,Option.bind_some]
   split at h2
   ·rename_i e
    rw[e,castD_pv h2];exact h
   ·cases h2
theorem dynW_of{E:Env}{o:Oper}{st:St}{args:Array Operand}{nm:String}{c:Ce}{K:AV→St→Option R}{r:R}(h:dynW E o st args nm c K=some r):dynK E c (fun t u=>methK E t nm u fun g=>invW E o st args g K) E.cands=some r:=by
 unfold dynW at h
 split at h
 ·exact dynK_mb (fun t u h=>methK_mb (fun g h=>invP_mb h) h) _ h
 ·exact h
theorem opW_of{st:St}{K:AV→St→Option R}{r:R}{E:Env}{a:Act}{o:Oper}(hΓ:EnvOk E w0.gl)(b:Behind w0 Fz0 ι Fz st a w)(h:opW E o st K=some r):
 ∃v st',K v st'=some r∧Wp E.P w0 Fz0 o a w v st':=by
 have he:=opnd_of (gl:=E.gl) (by rw[hΓ.gl];exact b.2.2.gok) b.1
 have m:=b.2.2
 generalize ho:o.op=op at *
 cases op with
 |store t x y=>exact store_of b (by rw[hΓ.gl];exact b.2.2.gok) ho h
 |binOp op t x y u=>
  simp only[opW,ho]at h
  split at h
  ·rename_i n hn
   obtain⟨v,hk,v',hr,hv,hg⟩:=nilK_of m.rb hn (he x) (he y) h
   refine⟨v,st,hk,OpGives.toWp (.inl ⟨v',w, ?_,ι,Fz,b,hv⟩)⟩
   simp[execOp,ho,hg x y,hr]
  ·split at h
   ·unfold mulN at h
    split at h
    ·rename_i m n hm hn
     have h1:=he x
     have h2:=he y
     rw[hm,RV_float]at h1
     rw[hn,RV_float]at h2
     have hg:∀c d:Value,(eqGuard .mul t x y c d).run E.P w= .ok () w:=fun c d=>by simp[eqGuard]
     cases hz:Ieee.double.mul m n with
     |some z=>
      rw[hz]at h
      refine⟨_,st,h,OpGives.toWp (.inl ⟨.float .f64 z,w, ?_,ι,Fz,b,RV_float.2 rfl⟩)⟩
      simp[execOp,ho,h1,h2,hg,run_float_arith w .mul t .f64 m n z hz]
     |none=>
      rw[hz]at h
      obtain⟨q,hq,hnan⟩:=mul_invalid (P:=E.P) w t m n hz
      refine⟨_,st,h,OpGives.toWp (.inl ⟨.float .f64 q,w.drew, ?_,ι,Fz,b.drew1, ?_⟩)⟩
      ·simp[execOp,ho,h1,h2,hg,hq]
      ·simp only[RV];exact⟨q,rfl,hnan⟩
    ·cases h
   ·cases h
 |sliceToArrayPointer t x=>
  simp only[opW,ho]at h
  split at h
  ·rename_i d hd
   obtain⟨v,ks,hk,_,_,v',hr,ι',hb,hv,_⟩:=apX_of b (he x) h
   refine⟨v,_,hk,OpGives.toWp (.inl ⟨v',w, ?_,ι',Fz,hb,hv⟩)⟩
   simp[execOp,ho,hr]
  ·cases h
 |slice t x lo hi mx=>
  cases lo with
  |some _=>simp[opW,ho]at h
  |none=>
   cases hi with
   |none=>simp[opW,ho]at h
   |some hi=>
    cases mx with
    |some _=>simp[opW,ho]at h
    |none=>
     simp only[opW,ho]at h
     split at h
     ·rename_i d hd
      obtain⟨v,ks,hk,_,_,v',hr,ι',hb,hv,_⟩:=cutX_of b (he x) (he hi) h
      refine⟨v,_,hk,OpGives.toWp (.inl ⟨v',w, ?_,ι',Fz,hb,hv⟩)⟩
      simp[execOp,ho,hr]
     ·cases h
 |defer c=>
  obtain⟨callee,args,ts⟩:=c
  simp only[opW,ho]at h
  split at h
  ·rename_i _ f ha
   have hargs:args= #[]:=by apply Array.ext';simpa using ha
   subst hargs
   split at h
   ·rename_i g caps hf
    have hef:=he f
    rw[hf]at hef
    simp only[RV]at hef
    obtain⟨cv,hfe,hcv⟩:=hef
    refine⟨_,_,h,fun Kc Q hK=> ?_⟩
    unfold Oper.wp
    have:(execOp a.eval o).run E.P w= .ok (.defer {target:= .fn (.func g) cv.toArray,args:= #[]}) w:=by
     simp[execOp,ho,resolve,hfe,Deferred.ofValue]
    rw[this]
    simp only[Oper.upon]
    refine hK undef {a with defers:={target:= .fn (.func g) cv.toArray,args:= #[]}::a.defers} w ι Fz rfl ⟨b.1, ?_,m⟩ (by simp[RV])
    simp only[RD]
    exact⟨g,caps,cv.toArray,a.defers,rfl,rfl,by simpa using hcv,b.2.1⟩
   ·cases h
  ·cases h
 |call c=>
  obtain⟨callee,args,ts⟩:=c
  cases callee with
  |builtin bi=>
   cases bi<;>first|(simp[opW,ho]at h;done)|skip
   case append=>
    simp only[opW,ho]at h
    split at h
    ·rename_i s x t t' d hax hat hd
     have hargs:args= #[s,x]:=by apply Array.ext';simpa using hax
     have hts:ts= #[t,t']:=by apply Array.ext';simpa using hat
     subst hargs hts
     cases ht:sameSl E.P t t' with
     |false=>
      rw[ht,cond_false]at h
      obtain⟨v,ks,hk,_,_,v',w',hr,ι',Fz',hb,hv,_⟩:=appZ_of (ty:=o.type) b (he s) (he x) h
      refine⟨v,_,hk,OpGives.toWp (.inl ⟨v',w', ?_,ι',Fz',hb,hv⟩)⟩
      simp[execOp,ho,resolve,invoke,builtin,hr]
     |true=>
      rw[ht,cond_true]at h
      obtain⟨v,ks,hk,_,_,v',w',hr,ι',Fz',hb,hv,_⟩:=appX_of (ty:=o.type) b (he s) (he x) ht h
      refine⟨v,_,hk,OpGives.toWp (.inl ⟨v',w', ?_,ι',Fz',hb,hv⟩)⟩
      simp[execOp,ho,resolve,invoke,builtin,hr]
    ·cases h
   case copy=>
    simp only[opW,ho]at h
    split at h
    ·rename_i s x t t' hax hat
     have hargs:args= #[s,x]:=by apply Array.ext';simpa using hax
     have hts:ts= #[t,t']:=by apply Array.ext';simpa using hat
     subst hargs hts
     obtain⟨n,ks,hk,w',hr,hb⟩:=cpX_of b (he s) (he x) h
     refine⟨_,_,hk,OpGives.toWp (.inl ⟨.int .i64 n,w', ?_,ι,Fz,hb,RV_int.2 rfl⟩)⟩
     simp[execOp,ho,resolve,invoke,builtin,hr]
    ·cases h
  |value f=>
   simp only[opW,ho]at h
   split at h
   ·rename_i g caps hf
    have hef:=he f
    rw[hf]at hef
    simp only[RV]at hef
    obtain⟨cv,hfe,hcv⟩:=hef
    have hrv0:RVs ι Fz w (args.toList.map (opnd E.gl st.fr)++caps) (args.toList.map a.eval++cv):=RVs_append (RVs_map he _) hcv
    rcases findC2_of h with h|⟨c2,hc2,rfl,x2,os,ls,hm2,h⟩
    rotate_left
    ·obtain⟨v,st',hk,hg⟩:=call2_of (hΓ.c2 c2 (Env.c2at_mem hc2)) b hm2 hrv0 h
     exact⟨v,st',hk,OpGives.toWp (OpGives.call ho hfe hg)⟩
    obtain⟨c,hc,rfl,x,hx,h⟩:=findCon_of h
    have hrv:RVs ι Fz w (args.toList.map (opnd E.gl st.fr)++caps) (args.toList.map a.eval++cv):=RVs_append (RVs_map he _) hcv
    cases hp:c.rs.all Kd.plain with
    |true=>
     rw[hp,cond_true]at h
     obtain⟨y,hy,h⟩:=Option.bind_eq_some_iff.1 h
     refine⟨_,_,h,OpGives.toWp ?_⟩
     have hra:=argsD_of (Fz':=lent ι Fz st.H) m.rb (fun b hb=> .inl hb) c.ps _ x _ hx hrv (fun h _ hl hv=> .inr ⟨h,isArr_live hl,hv,rfl⟩)
     refine OpGives.call ho hfe ((hΓ.c1 c hc w _ x _ y (lent_lt m) (m.gok.mono (fun _ _=>rfl) (fun b hb=> .inl hb)) hra hy).mono ?_)
     rintro v w' ⟨hbel,Fz',h1,h2,h3,hv⟩
     exact⟨ι,Fz,b.mono (fun k hk=>hbel.block k (m.fz k hk)) (fun _ h=>h) (m.grow hbel (fun _ h=>h) (fun _ h=> .inl h) (fun k hk=>Nat.lt_of_lt_of_le (m.fz k hk) hbel.size)),resV_plain hp hv⟩
    |false=>
     rw[hp,cond_false]at h
     obtain⟨st',hfa,h⟩:=Option.bind_eq_some_iff.1 h
     obtain⟨y,hy,h⟩:=Option.bind_eq_some_iff.1 h
     obtain⟨F1,f1,b1,f2,_⟩:=frzArgs_of _ hfa b
     refine⟨_,_,h,OpGives.toWp ?_⟩
     have m1:=b1.2.2
     have hra:=argsD_of (Fz':=F1) m.rb f1 c.ps _ x _ hx hrv (fun h hm hl hv=>f2 h hm (isArr_live hl) hv)
     refine OpGives.call ho hfe ((hΓ.c1 c hc w _ x _ y m1.fz m1.gok hra hy).mono ?_)
     rintro v w' ⟨hbel,Fz',h1,h2,h3,hv⟩
     exact⟨ι,Fz',b1.mono (fun k hk=>hbel.block k (m1.fz k hk)) h1 (m1.grow hbel h1 h2 h3),resV_iota hv⟩
   ·cases h
  |invoke f nm=>
   simp only[opW,ho]at h
   have key:∀(st:St),Behind w0 Fz0 ι Fz st a w→∀t u u',a.eval f= .iface t u'→RV ι Fz w u u'→(methK E t nm u fun g=>invW E o st args g K)=some r→∃v st',K v st'=some r∧Wp E.P w0 Fz0 o a w v st':=by
    intro st b t u u' hfe hu h
    have he:=opnd_of (gl:=E.gl) (by rw[hΓ.gl];exact b.2.2.gok) b.1
    have m:=b.2.2
    obtain⟨g,x0,h,x',hm0,hx0⟩:=methK_of (w:=w) h hu
    unfold invW at h
    have hrv0:RVs ι Fz w (x0::args.toList.map (opnd E.gl st.fr)) (x'::args.toList.map a.eval):=by
     simp only[RVs]
     exact⟨x',_,rfl,hx0,RVs_map he _⟩
    have hq:=findC2_of h
    clear h
    rcases hq with h|⟨c2,hc2,hcf,x2,os,ls,hm2,h⟩
    rotate_left
    ·dsimp only at hcf
     subst hcf
     obtain⟨v,st',hk,hg⟩:=call2_of (hΓ.c2 c2 hc2) b hm2 hrv0 h
     exact⟨v,st',hk,OpGives.toWp (OpGives.callI ho hfe hm0 hg)⟩
    have hq:=findCon_of h
    clear h
    obtain⟨c,hc,hcf,x,hx,h⟩:=hq
    dsimp only at hcf
    subst hcf
    have hrv:=hrv0
    cases hp:c.rs.all Kd.plain with
    |true=>
     rw[hp,cond_true]at h
     obtain⟨y,hy,h⟩:=Option.bind_eq_some_iff.1 h
     refine⟨_,_,h,OpGives.toWp ?_⟩
     have hra:=argsD_of (Fz':=lent ι Fz st.H) m.rb (fun b hb=> .inl hb) c.ps _ x _ hx hrv (fun h _ hl hv=> .inr ⟨h,isArr_live hl,hv,rfl⟩)
     refine OpGives.callI ho hfe hm0 ((hΓ.c1 c hc w _ x _ y (lent_lt m) (m.gok.mono (fun _ _=>rfl) (fun b hb=> .inl hb)) hra hy).mono ?_)
     rintro v w' ⟨hbel,Fz',h1,h2,h3,hv⟩
     exact⟨ι,Fz,b.mono (fun k hk=>hbel.block k (m.fz k hk)) (fun _ h=>h) (m.grow hbel (fun _ h=>h) (fun _ h=> .inl h) (fun k hk=>Nat.lt_of_lt_of_le (m.fz k hk) hbel.size)),resV_plain hp hv⟩
    |false=>
     rw[hp,cond_false]at h
     obtain⟨st',hfa,h⟩:=Option.bind_eq_some_iff.1 h
     obtain⟨y,hy,h⟩:=Option.bind_eq_some_iff.1 h
     obtain⟨F1,f1,b1,f2,_⟩:=frzArgs_of _ hfa b
     refine⟨_,_,h,OpGives.toWp ?_⟩
     have m1:=b1.2.2
     have hra:=argsD_of (Fz':=F1) m.rb f1 c.ps _ x _ hx hrv (fun h hm hl hv=>f2 h hm (isArr_live hl) hv)
     refine OpGives.callI ho hfe hm0 ((hΓ.c1 c hc w _ x _ y m1.fz m1.gok hra hy).mono ?_)
     rintro v w' ⟨hbel,Fz',h1,h2,h3,hv⟩
     exact⟨ι,Fz',b1.mono (fun k hk=>hbel.block k (m1.fz k hk)) h1 (m1.grow hbel h1 h2 h3),resV_iota hv⟩
   split at h
   ·rename_i t u hf
    have hef:=he f
    rw[hf]at hef
    simp only[RV]at hef
    obtain⟨u',hfe,hu⟩:=hef
    exact key st b t u u' hfe hu h
   ·rename_i c hf
    have hef:=he f
    rw[hf]at hef
    obtain⟨t,u,h,u',hfe,hu⟩:=dynK_of hef _ (dynW_of h)
    exact key _ b t u u' hfe hu h
   ·cases h
 |_=>simp[opW,ho]at h
theorem opS_of{st:St}{K:AV→St→Option R}{r:R}{E:Env}{a:Act}{o:Oper}(hΓ:EnvOk E w0.gl)(b:Behind w0 Fz0 ι Fz st a w)(h:opS E o st K=some r):
 ∃v st',K v st'=some r∧Wp E.P w0 Fz0 o a w v st':=by
 unfold opS at h
 cases hw:(Op.isW o.op||isCut E o||isNil E o st||isMulN E o)with
 |true=>rw[hw,cond_true]at h;exact opW_of hΓ b h
 |false=>
  rw[hw,cond_false]at h
  obtain⟨st2,hpre,h⟩:=Option.bind_eq_some_iff.1 h
  obtain⟨Fz,b⟩:∃Fz':Nat→Prop,Behind w0 Fz0 ι Fz' st2 a w:=by
   unfold preS at hpre
   split at hpre
   ·rename_i t len parts _
    cases hpl:plainSl E t with
    |true=>
     rw[hpl,cond_true]at hpre
     obtain⟨F,_,b',_⟩:=frzArgs_of _ hpre b
     exact⟨F,b'⟩
    |false=>
     rw[hpl,cond_false]at hpre
     simp only[Option.some.injEq]at hpre
     subst hpre;exact⟨Fz,b⟩
   ·split at hpre
    ·split at hpre
     ·rename_i h0 off n el _ _ _ κ hkd
      cases hc:(Nat.beq off 0&&okDf st.df h0)with
      |false=>rw[hc]at hpre;cases hpre
      |true=>
       rw[hc,cond_true]at hpre
       simp only[Bool.and_eq_true]at hc
       exact frzB_of b hc.2 hpre
     ·cases hpre
    ·simp only[Option.some.injEq]at hpre
     subst hpre;exact⟨Fz,b⟩
   ·simp only[Option.some.injEq]at hpre
    subst hpre;exact⟨Fz,b⟩
  obtain⟨v,ob,hk,hg⟩:=opR_of hΓ.c1 b.2.2 (opnd_of (gl:=E.gl) (by rw[hΓ.gl];exact b.2.2.gok) b.1) h
  cases ob with
  |none=>
   refine⟨v,st2,hk,OpGives.toWp ((hg (fun _ h=>by cases h)).mono ?_)⟩
   rintro v' w' ⟨ι',Fz',h1,h2,h3,h4,h5⟩
   have e:ι'=ι:=funext fun k=>h3 k (.inl rfl)
   subst e
   exact⟨ι',Fz',b.mono h1 h2 h4,h5⟩
  |some bl=>
   simp only at hk
   cases hc:(!okNew st2.df (o.dst.getD 0)||bl.ment (o.dst.getD 0))with
   |true=>rw[hc]at hk;cases hk
   |false=>
    rw[hc,cond_false]at hk
    simp only[Bool.or_eq_false_iff,Bool.not_eq_false']at hc
    refine⟨v,_,hk,OpGives.toWp ((hg (fun b hb=>by cases hb;exact⟨hc.2,(okNew_df hc.1).2⟩)).mono ?_)⟩
    rintro v' w' ⟨ι',Fz',h1,h2,h3,h4,h5⟩
    exact⟨ι',Fz',b.strike h1 h2 (fun k hk=>h3 k (.inr hk)) (okNew_df hc.1).1 h4,h5⟩
theorem Behind.put{st:St}{a:Act}{v:AV}{v':Value}(b:Behind w0 Fz0 ι Fz st a w)(hv:RV ι Fz w v v')(dst:Option Nat)(hd:∀d,dst=some d→d<a.tmps.size):
 Behind w0 Fz0 ι Fz (putF st dst v) (a.put dst v') w:=by
 cases dst with
 |none=>exact b
 |some d=>
  have hd:=hd d rfl
  refine⟨fun t=> ?_,b.2.1,b.2.2⟩
  show RV ι Fz w (getF ((d,v)::st.fr) t) _
  rw[getF_cons]
  by_cases e:d=t
  ·subst e
   rw[if_pos rfl]
   simp only[Act.put]
   rw[Array.getD_eq_getD_getElem?,Array.getElem?_setIfInBounds_self]
   simpa[hd]using hv
  ·rw[if_neg e]
   simp only[Act.put]
   rw[Array.getD_eq_getD_getElem?,Array.getElem?_setIfInBounds_ne e,←Array.getD_eq_getD_getElem?]
   exact b.1 t
theorem size_put(a:Act)(d:Option Nat)(v:Value):(a.put d v).tmps.size=a.tmps.size:=by cases d<;>simp[Act.put]
theorem Behind.known{st:St}{a:Act}{d:Nat}{p:Bool}(b:Behind w0 Fz0 ι Fz st a w)(hg:getF st.fr d= .pv .bool p):Behind w0 Fz0 ι Fz ⟨(d, .pv .bool p)::st.fr,st.H,st.df⟩ a w:=by
 refine⟨fun t=> ?_,b.2.1,b.2.2⟩
 show RV ι Fz w (getF ((d,_)::st.fr) t) _
 rw[getF_cons]
 by_cases e:d=t
 ·subst e;rw[if_pos rfl,←hg];exact b.1 d
 ·rw[if_neg e];exact b.1 t
def dstOk(ops:List Oper)(nt:Nat):Prop:=∀o∈ops,∀d,o.dst=some d→d<nt
theorem opG_of{st:St}{K:St→Option R}{r:R}{E:Env}{a:Act}{o:Oper}{ops:Array Oper}{nt:Nat}(hΓ:EnvOk E w0.gl)(hnt:a.tmps.size=nt)(hd:∀d,o.dst=some d→d<nt)(b:Behind w0 Fz0 ι Fz st a w)(h:opG E ops o st K=some r):
 ∃(st':St),K st'=some r∧∀(Kc:Act→World→Prop) (Q:Exit→Act→World→Prop),(∀a' w' ι' Fz',a'.tmps.size=nt→Behind w0 Fz0 ι' Fz' st' a' w'→Kc a' w')→
  if Region.wanted o (yielded ops a.tmps)then o.wp E.P a w Kc Q else Kc (a.put o.dst undef) w:=by
 have hdv:∀(a':Act),a'.tmps.size=nt→∀d,o.dst=some d→d<a'.tmps.size:=fun a' ha d hh=>by rw[ha];exact hd d hh
 have run {st1:St} (b1:Behind w0 Fz0 ι Fz st1 a w) (h1:(opS E o st1 fun v st'=>K (putF st' o.dst v))=some r) (hwant:Region.wanted o (yielded ops a.tmps)=true):
  ∃(st':St),K st'=some r∧∀(Kc:Act→World→Prop) (Q:Exit→Act→World→Prop),(∀a' w' ι' Fz',a'.tmps.size=nt→Behind w0 Fz0 ι' Fz' st' a' w'→Kc a' w')→
  if Region.wanted o (yielded ops a.tmps)then o.wp E.P a w Kc Q else Kc (a.put o.dst undef) w:=by
  obtain⟨v,st',hk,hw⟩:=opS_of hΓ b1 h1
  refine⟨_,hk,fun Kc Q hK=> ?_⟩
  rw[if_pos hwant]
  refine hw Kc Q fun v' a' w' ι' Fz' ht hb hv=>hK _ _ ι' Fz' (by rw[size_put,ht];exact hnt) (hb.put hv o.dst (hdv a' (by rw[ht];exact hnt)))
 have skip {st1:St} (b1:Behind w0 Fz0 ι Fz st1 a w) (h1:K (putF st1 o.dst (.tuple []))=some r) (hwant:Region.wanted o (yielded ops a.tmps)=false):
  ∃(st':St),K st'=some r∧∀(Kc:Act→World→Prop) (Q:Exit→Act→World→Prop),(∀a' w' ι' Fz',a'.tmps.size=nt→Behind w0 Fz0 ι' Fz' st' a' w'→Kc a' w')→
  if Region.wanted o (yielded ops a.tmps)then o.wp E.P a w Kc Q else Kc (a.put o.dst undef) w:=by
  refine⟨_,h1,fun Kc Q hK=> ?_⟩
  rw[if_neg (by rw[hwant];simp)]
  exact hK _ _ ι Fz (by rw[size_put];exact hnt) (b1.put (by simp only[RV];exact⟨[],rfl,by simp[RVs]⟩) o.dst (hdv a hnt))
 unfold opG at h
 split at h
 ·rename_i hgd
  exact run b h (by simp[Region.wanted,hgd])
 ·rename_i j want hgd
  split at h
  ·rename_i d hdst
   split at h
   ·rename_i p hp
    have hval:=b.1 d
    rw[hp,RV_bool]at hval
    have hy:yielded ops a.tmps j=some p:=by
     unfold yielded
     rw[hdst]
     have:a.tmps[d]?=some (.bool p):=by
      rw[Array.getD_eq_getD_getElem?]at hval
      cases hx:a.tmps[d]? with
      |none=>rw[hx]at hval;simp[undef]at hval
      |some x=>rw[hx]at hval;simp at hval;rw[hval]
     simp[this]
    have hwnt:Region.wanted o (yielded ops a.tmps)=(some p==some want):=by simp only[Region.wanted,hgd,hy]
    cases p with
    |true=>
     simp only[cond_true]at h
     cases want with
     |true=>simp only[cond_true]at h;exact run (b.known hp) h (by rw[hwnt];rfl)
     |false=>simp only[cond_false]at h;exact skip (b.known hp) h (by rw[hwnt];rfl)
    |false=>
     simp only[cond_false]at h
     cases want with
     |true=>simp only[cond_true]at h;exact skip (b.known hp) h (by rw[hwnt];rfl)
     |false=>simp only[cond_false]at h;exact run (b.known hp) h (by rw[hwnt];rfl)
   ·rename_i hp
    have hval:=b.1 d
    rw[hp]at hval
    simp only[RV,RVs]at hval
    obtain⟨vs,hval,rfl⟩:=hval
    have hy:yielded ops a.tmps j=none:=by
     unfold yielded
     rw[hdst]
     rw[Array.getD_eq_getD_getElem?]at hval
     cases hx:a.tmps[d]? with
     |none=>simp[hx]
     |some x=>rw[hx]at hval;simp at hval;simp[hx,hval]
    exact skip b h (by simp only[Region.wanted,hgd,hy];rfl)
   ·cases h
  ·cases h
theorem opsG_of{E:Env}{ops:Array Oper}{nt:Nat}(hΓ:EnvOk E w0.gl){Q:Exit→Act→World→Prop}:∀(l:List Oper) {ι:Nat→HI} {Fz:Nat→Prop} {st:St} {a:Act} {w:World} {K:St→Option R} {r:R},dstOk l nt→a.tmps.size=nt→
 Behind w0 Fz0 ι Fz st a w→opsG E ops l st K=some r→(∀st' a' w' ι' Fz',K st'=some r→a'.tmps.size=nt→Behind w0 Fz0 ι' Fz' st' a' w'→Q .normal a' w')→wpList E.P ops Q l a w
 |[],ι,Fz,st,a,w,K,r,_,hnt,b,h,hQ=>wpList_nil (hQ st a w ι Fz h hnt b)
 |o::l,ι,Fz,st,a,w,K,r,hd,hnt,b,h,hQ=>by
  simp only[opsG]at h
  obtain⟨st',hk,hw⟩:=opG_of hΓ hnt (hd o (by simp)) b h
  refine wpList_step fun Kc hKc=>hw Kc Q fun a' w' ι' Fz' hnt' b'=>hKc _ _ (opsG_of hΓ l (fun o ho=>hd o (by simp[ho])) hnt' b' hk hQ)
end
end Go.Av
namespace Go.Av
open Go Go.RowKit
section
variable {R S:Type}
theorem cond_bind(c:Bool)(a b:Option R)(G:R→Option S):(bif c then a else b).bind G=bif c then a.bind G else b.bind G:=by cases c<;>rfl
theorem ite_bind(c:Prop)[Decidable c](a b:Option R)(G:R→Option S):(if c then a else b).bind G=if c then a.bind G else b.bind G:=by split<;>rfl
theorem elemK_bind(P:Program)(t:TypeId)(F:TypeId→Option R)(G:R→Option S):(elemK P t F).bind G=elemK P t fun x=>(F x).bind G:=by
 unfold elemK;split<;>rfl
theorem sizeK_bind(P:Program)(t:TypeId)(F:Nat→Option R)(G:R→Option S):(sizeK P t F).bind G=sizeK P t fun x=>(F x).bind G:=by
 unfold sizeK;split<;>rfl
theorem fieldK_bind(P:Program)(t:TypeId)(f:Nat)(F:Field→Option R)(G:R→Option S):(fieldK P t f F).bind G=fieldK P t f fun x=>(F x).bind G:=by
 unfold fieldK;split
 ·split<;>rfl
 ·rfl
theorem prjK_bind:∀(κ:Kd) (x:Den κ) (n:Nat) (F:(κ':Kd)→Den κ'→Nat→Option R) (G:R→Option S),(prjK κ x n F).bind G=prjK κ x n fun a b c=>(F a b c).bind G
 | .pair a b,x,0,F,G=>rfl
 | .pair a b,x,n+1,F,G=>by simp only[prjK];exact prjK_bind b x.2 n _ G
 | .geo,g,0,F,G=>rfl
 | .geo,g,1,F,G=>rfl
 | .geo,g,2,F,G=>rfl
 | .geo,g,3,F,G=>rfl
 | .geo,g,4,F,G=>rfl
 | .geo,g,5,F,G=>rfl
 | .geo,g,6,F,G=>rfl
 | .geo,g,n+7,F,G=>rfl
 | .any,_,_,_,_=>rfl
 | .nl _,_,_,_,_=>rfl
 | .int _,_,_,_,_=>rfl
 | .float,_,_,_,_=>rfl
 | .bool,_,_,_,_=>rfl
 | .str,_,_,_,_=>rfl
 | .list _,_,_,_,_=>rfl
 | .unit,_,_,_,_=>rfl
theorem findCon_bind(cons:List Con)(f:FuncId)(H:List (Nat×AB))(vs:List AV)(F:(c:Con)→HL c.ps→Option R)(G:R→Option S):
 (findCon cons f H vs F).bind G=findCon cons f H vs fun c x=>(F c x).bind G:=by
 induction cons with
 |nil=>rfl
 |cons c r ih=>
  simp only[findCon,cond_bind,ih]
  cases Nat.beq c.fid f
  ·rfl
  ·simp only[cond_true];split<;>simp only[*]
theorem binV_bind(P:Program)(t:TypeId)(cst:Bool)(op:BinOp)(x y:AV)(F:AV→Option R)(G:R→Option S):(binV P t cst op x y F).bind G=binV P t cst op x y fun v=>(F v).bind G:=by
 unfold binV
 have hI:∀op k m n,(binI op k m n F).bind G=binI op k m n fun v=>(F v).bind G:=by
  intro op k m n;unfold binI;split<;>first|rfl|(split<;>rfl)
 have hS:∀op k m n,(shI op k m n F).bind G=shI op k m n fun v=>(F v).bind G:=by
  intro op k m n;unfold shI;split<;>first|rfl|(split<;>rfl)
 have hF:∀op m n,(binF op m n F).bind G=binF op m n fun v=>(F v).bind G:=by
  intro op m n;unfold binF;split<;>first|rfl|simp only[Option.bind_assoc]
 have hC:∀op b,(cmpK op b F).bind G=cmpK op b fun v=>(F v).bind G:=by
  intro op b;unfold cmpK;split<;>rfl
 have hN:∀op,(nanK op F).bind G=nanK op fun v=>(F v).bind G:=by
  intro op;unfold nanK;split<;>rfl
 (repeat' split)<;>simp only[cond_bind,hI,hS,hF,hC,hN,Option.bind_assoc,Option.bind_none, *]
theorem nilD_bind(P:Program)(t:TypeId)(op:BinOp)(n:Nat)(F:AV→Option R)(G:R→Option S):(nilD P t op n F).bind G=nilD P t op n fun v=>(F v).bind G:=by
 have hC:∀op b,(cmpK op b F).bind G=cmpK op b fun v=>(F v).bind G:=by
  intro op b;unfold cmpK;split<;>rfl
 unfold nilD
 split
 ·rw[cond_bind,hC,Option.bind_none]
 ·rfl
theorem idxK_bind(j:Int)(F:Nat→Option R)(G:R→Option S):∀(m q:Nat),(idxK j F m q).bind G=idxK j (fun p=>(F p).bind G) m q
 |0,_=>rfl
 |m+1,q=>by simp only[idxK,cond_bind,idxK_bind j F G m]
theorem mmV_bind(mx:Bool)(x y:AV)(F:AV→Option R)(G:R→Option S):(mmV mx x y F).bind G=mmV mx x y fun v=>(F v).bind G:=by
 unfold mmV
 (repeat' split)<;>simp only[cond_bind,Option.bind_assoc,Option.bind_none]
theorem zeroK_bind(P:Program)(t:TypeId)(F:AV→Option R)(G:R→Option S):(zeroK P t F).bind G=zeroK P t fun v=>(F v).bind G:=by
 unfold zeroK
 (repeat' split)<;>rfl
theorem kdK_bind(E:Env)(t:TypeId)(F:Kd→Option R)(G:R→Option S):(kdK E t F).bind G=kdK E t fun κ=>(F κ).bind G:=by
 unfold kdK;split<;>rfl
theorem dynK_bind(E:Env)(c:Ce)(F:TypeId→AV→Option R)(G:R→Option S):∀l,(dynK E c F l).bind G=dynK E c (fun t u=>(F t u).bind G) l
 |[]=>rfl
 |t::l=>by
  simp only[dynK,Option.bind_assoc,cond_bind,kdK_bind,dynK_bind E c F G l,Option.bind_none]
theorem methK_bind(E:Env)(t:TypeId)(nm:String)(v:AV)(F:FuncId×AV→Option R)(G:R→Option S):(methK E t nm v F).bind G=methK E t nm v fun g=>(F g).bind G:=by
 unfold methK
 split
 ·split<;>simp only[kdK_bind,Option.bind_assoc,Option.bind_none]
 ·simp only[Option.bind_assoc]
theorem opR_bind(E:Env)(op:Op)(e:Operand→AV)(H:List (Nat×AB))(F:AV→Option AB→Option R)(G:R→Option S)(d:Nat):(opR E op e H F d).bind G=opR E op e H (fun v ob=>(F v ob).bind G) d:=by
 cases op<;>first
  |rfl
  |(simp only[opR,cond_bind,ite_bind,elemK_bind,sizeK_bind,fieldK_bind,prjK_bind,findCon_bind,binV_bind,nilD_bind,idxK_bind,mmV_bind,kdK_bind,dynK_bind,methK_bind,Option.bind_assoc];done)
  |(simp only[opR,cond_bind,ite_bind,elemK_bind,sizeK_bind,fieldK_bind,prjK_bind,findCon_bind,binV_bind,nilD_bind,idxK_bind,mmV_bind,kdK_bind,dynK_bind,methK_bind,Option.bind_assoc];(repeat' split)<;>simp only[cond_bind,ite_bind,elemK_bind,sizeK_bind,fieldK_bind,prjK_bind,findCon_bind,binV_bind,nilD_bind,idxK_bind,mmV_bind,kdK_bind,dynK_bind,methK_bind,Option.bind_assoc,Option.bind_none,Option.bind_some];done)
  |skip
 case buildSlice t len parts=>
  simp only[opR,elemK_bind]
  refine congrArg _ (funext fun el=> ?_)
  split
  ·simp only[cond_bind,Option.bind_assoc,Option.bind_none]
  ·simp only[cond_bind,Option.bind_none]
 case makeSlice t l c=>
  simp only[opR,elemK_bind]
  refine congrArg _ (funext fun el=> ?_)
  split
  ·split
   ·rw[cond_bind]
    split<;>simp only[Option.bind_assoc,Option.bind_none]
   ·rfl
  ·rfl
 case makeFunc f first caps=>
  cases f with
  |method nm=>
   simp only[opR]
   cases hf:first.toList with
   |nil=>rfl
   |cons x r=>
    cases r with
    |cons _ _=>rfl
    |nil=>
     cases hc:caps.toList with
     |cons _ _=>rfl
     |nil=>
      simp only
      (repeat' split)<;>rfl
  |_=>simp only[opR,cond_bind,Option.bind_none]
 case slice t x lo hi mx=>
  cases mx with
  |some m=>
   cases hi with
   |none=>rfl
   |some hi=>
    simp only[opR]
    rw[elemK_bind]
    refine congrArg _ (funext fun el=> ?_)
    split
    ·rw[cond_bind,Option.bind_assoc,Option.bind_none]
    ·rfl
  |none=>
   have hb:∀(len:Nat) (K:Nat×Nat→Option R),
    (match(lo.map e).getD (.pv (.int .i64) 0),(hi.map e).getD (.pv (.int .i64) (len:Int))with| .pv (.int _) l, .pv (.int _) h=>(chk2 l h len).bind K|_,_=>none).bind G=
    (match(lo.map e).getD (.pv (.int .i64) 0),(hi.map e).getD (.pv (.int .i64) (len:Int))with| .pv (.int _) l, .pv (.int _) h=>(chk2 l h len).bind fun p=>(K p).bind G|_,_=>none):=by
    intro len K
    split<;>simp only[Option.bind_assoc,Option.bind_none]
   simp only[opR]
   split
   ·split
    ·exact hb _ _
    ·rfl
   ·split
    ·rw[cond_bind,Option.bind_none]
    ·rfl
   ·split
    ·split
     ·rw[cond_bind,Option.bind_none,Option.bind_assoc]
      refine congrArg (fun z=>cond _ z _) (congrArg _ (funext fun ys=> ?_))
      exact hb _ _
     ·rfl
    ·rfl
   ·rw[elemK_bind]
    refine congrArg _ (funext fun el=> ?_)
    (repeat' split)<;>simp only[cond_bind,Option.bind_none,Option.bind_assoc,hb]
 case field s x f=>
  simp only[opR,fieldK_bind]
  refine congrArg _ (funext fun fd=> ?_)
  split
  ·simp only[cond_bind,sizeK_bind,Option.bind_none]
   (repeat' split)<;>rfl
  ·rw[prjK_bind]
   simp only[cond_bind,Option.bind_none]
  ·rfl
 case typeAssert x t asserted ok=>
  cases ok with
  |true=>
   simp only[opR]
   (repeat' split)<;>first|rfl|(simp only[cond_bind,Option.bind_none,Option.bind_assoc,zeroK_bind,kdK_bind]<;>(repeat' split)<;>simp only[Option.bind_none])
  |false=>
   simp only[opR]
   (repeat' split)<;>first|rfl|simp only[cond_bind,Option.bind_none,Option.bind_assoc,kdK_bind]
theorem opR_congr(E:Env)(op:Op){e e':Operand→AV}(H:List (Nat×AB))(F:AV→Option AB→Option R)(d:Nat)(h:∀x∈op.operands,e x=e' x):opR E op e H F d=opR E op e' H F d:=by
 cases op<;>try(first
  |rfl
  |(simp only[opR];simp only[Op.operands,List.mem_toArray,List.mem_cons,List.not_mem_nil,or_false,forall_eq_or_imp,forall_eq]at h;simp only[h];done)
  |(simp only[opR];simp[Op.operands]at h;simp only[h];done))
 case build t parts=>
  have hm:(parts.toList.map fun p=>(p.1,e p.2))=parts.toList.map fun p=>(p.1,e' p.2):=List.map_congr_left fun p hp=>by
   rw[h p.2 (by simp only[Op.operands,List.mem_toArray,List.mem_map];exact⟨p,hp,rfl⟩)]
  simp only[opR,hm]
 case buildSlice t len parts=>
  have hm:(parts.toList.map fun p=>(p.1,e p.2))=parts.toList.map fun p=>(p.1,e' p.2):=List.map_congr_left fun p hp=>by
   rw[h p.2 (by simp only[Op.operands,List.mem_toArray,List.mem_map];exact⟨p,hp,rfl⟩)]
  have hm2:(parts.toList.map fun p=>e p.2)=parts.toList.map fun p=>e' p.2:=List.map_congr_left fun p hp=>by
   rw[h p.2 (by simp only[Op.operands,List.mem_toArray,List.mem_map];exact⟨p,hp,rfl⟩)]
  have ha:(parts.toList.all fun p=>(e p.2).free|| !(e p.2).handled)=parts.toList.all fun p=>(e' p.2).free|| !(e' p.2).handled:=by
   rw[Bool.eq_iff_iff,List.all_eq_true,List.all_eq_true]
   refine forall_congr' fun p=>forall_congr' fun hp=> ?_
   rw[h p.2 (by simp only[Op.operands,List.mem_toArray,List.mem_map];exact⟨p,hp,rfl⟩)]
  simp only[opR,hm,ha,hm2]
 case makeFunc f first caps=>
  have hm:caps.toList.map e=caps.toList.map e':=List.map_congr_left fun p hp=>h p (by simp only[Op.operands,Array.mem_append];exact .inr (by simpa using hp))
  cases f with
  |method nm=>
   simp only[opR]
   cases hf:first.toList with
   |nil=>rfl
   |cons x r=>
    cases r with
    |cons _ _=>rfl
    |nil=>
     have hx:e x=e' x:=h x (by simp only[Op.operands,Array.mem_append];exact .inl (by rw[←Array.mem_toList_iff,hf];simp))
     cases hc:caps.toList with
     |cons _ _=>rfl
     |nil=>
      simp only
      rw[hx]
  |_=>simp only[opR,hm]
 case slice t x lo hi mx=>
  have hx:e x=e' x:=h x (by simp[Op.operands])
  have hlo:lo.map e=lo.map e':=by
   cases lo with
   |none=>rfl
   |some l=>simp only[Option.map_some];rw[h l (by simp[Op.operands])]
  have hhi:hi.map e=hi.map e':=by
   cases hi with
   |none=>rfl
   |some l=>simp only[Option.map_some];rw[h l (by simp[Op.operands])]
  cases mx with
  |none=>simp only[opR,hx,hlo,hhi]
  |some mx=>
   have hmx:e mx=e' mx:=h mx (by simp[Op.operands])
   cases hi with
   |none=>simp only[opR]
   |some hi=>
    have hhi':e hi=e' hi:=h hi (by simp[Op.operands])
    simp only[opR,hx,hlo,hhi',hmx]
 case typeAssert x t asserted ok=>
  have hx:e x=e' x:=h x (by simp[Op.operands])
  cases ok<;>simp only[opR,hx]
 case call c=>
  have hm:c.args.toList.map e=c.args.toList.map e':=List.map_congr_left fun p hp=>h p (by
   simp only[Op.operands,Call.operands,Array.mem_append]
   exact .inr (by simpa using hp))
  have hf:∀f,c.callee= .value f→e f=e' f:=fun f hf=>h f (by simp[Op.operands,Call.operands,hf])
  have ha:∀x∈c.args.toList,e x=e' x:=fun x hx=>h x (by
   simp only[Op.operands,Call.operands,Array.mem_append]
   exact .inr (by simpa using hx))
  simp only[opR]
  split
  ·split
   ·rename_i x t hargs ht
    rw[hargs]at ha
    rw[ha x (by simp)]
   ·rfl
  ·split
   ·rename_i x t hargs ht
    rw[hargs]at ha
    rw[ha x (by simp)]
   ·rfl
  ·split
   ·rename_i x y hargs
    rw[hargs]at ha
    rw[ha x (by simp),ha y (by simp)]
   ·rename_i x y z hargs
    rw[hargs]at ha
    rw[ha x (by simp),ha y (by simp),ha z (by simp)]
   ·rfl
  ·split
   ·rename_i x y hargs
    rw[hargs]at ha
    rw[ha x (by simp),ha y (by simp)]
   ·rename_i x y z hargs
    rw[hargs]at ha
    rw[ha x (by simp),ha y (by simp),ha z (by simp)]
   ·rfl
  ·rename_i f hc
   rw[hf f hc,hm]
  ·rename_i f nm hc
   have hf':e f=e' f:=h f (by simp[Op.operands,Call.operands,hc])
   rw[hf',hm]
  ·rfl
end
end Go.Av
namespace Go.Av
open Go Go.RowKit
section
variable {R S:Type}
theorem aK_bind(K:AV→Option R):aK K=fun v ob=>(aK some v ob).bind K:=by
 funext v ob;cases ob<;>rfl
theorem bK_bind(K:AV→Option R):bK K=fun v ob=>(bK some v ob).bind K:=by
 funext v ob
 unfold bK
 split<;>simp only[cond_bind,Option.bind_some,Option.bind_none]
theorem opA_bind(E:Env)(op:Op)(e:Operand→AV)(H:List (Nat×AB))(K:AV→Option R)(d:Nat):opA E op e H K d=(opA E op e H some d).bind K:=by
 have main:∀op:Op,opR E op e H (aK K) d=(opR E op e H (aK some) d).bind K:=by
  intro op
  rw[aK_bind,←opR_bind]
 cases op<;>simp only[opA]<;>first|exact main _|skip
 rw[bK_bind,←opR_bind]
theorem opA_some{E:Env}{op:Op}{e:Operand→AV}{H:List (Nat×AB)}{K:AV→Option R}{d:Nat}{r:R}(h:opA E op e H K d=some r):∃v,opA E op e H some d=some v∧K v=some r:=by
 rw[opA_bind]at h
 exact Option.bind_eq_some_iff.1 h
theorem opA_congr(E:Env)(op:Op){e e':Operand→AV}(H:List (Nat×AB))(K:AV→Option R)(d:Nat)(h:∀x∈op.operands,e x=e' x):opA E op e H K d=opA E op e' H K d:=by
 cases op<;>simp only[opA]<;>exact opR_congr E _ H _ d h
theorem findC2_bind(c2:List Con2)(f:FuncId)(H:List (Nat×AB))(vs:List AV)(K:(c:Con2)→ShDs c.ins→List (Option Nat)→List AV→Option R)(K0:Option R)(G:R→Option S):
 (findC2 c2 f H vs K K0).bind G=findC2 c2 f H vs (fun c x os ls=>(K c x os ls).bind G) (K0.bind G):=by
 induction c2 with
 |nil=>rfl
 |cons c l ih=>
  simp only[findC2,cond_bind,ih]
  cases Nat.beq c.fid f
  ·rfl
  ·simp only[cond_true];split<;>simp only[*]
theorem altK_bind:∀(alts:List Alt) (y:AltD alts) (K:(a:Alt)→ShDs a.all→Option R) (G:R→Option S),(altK alts y K).bind G=altK alts y fun a d=>(K a d).bind G
 |[],_,_,_=>rfl
 |[a],_,_,_=>rfl
 |a::b::r,y,K,G=>by
  cases y with
  |inl d=>rfl
  |inr y=>exact altK_bind (b::r) y K G
theorem callX_bind(fr:Bool)(c:Con2)(x:ShDs c.ins)(os:List (Option Nat))(df:List AV)(d:Nat)(K:AV→List (Nat×AB)→List Nat→Option R)(G:R→Option S):
 (callX fr c x os df d K).bind G=callX fr c x os df d fun v ks nf=>(K v ks nf).bind G:=by
 simp only[callX,Option.bind_assoc,altK_bind,cond_bind,Option.bind_none]
theorem appX0_bind(E:Env)(t:TypeId)(H:List (Nat×AB))(df:List AV)(s x:AV)(d:Nat)(K:AV→List (Nat×AB)→List Nat→Option R)(G:R→Option S):
 (appX0 E t H df s x d K).bind G=appX0 E t H df s x d fun v ks nf=>(K v ks nf).bind G:=by
 simp only[appX0,elemK_bind]
 refine congrArg _ (funext fun el=> ?_)
 split
 ·rw[cond_bind,Option.bind_none,Option.bind_assoc]
  congr 1
  congr 1
  funext ys
  rw[cond_bind,Option.bind_none]
  congr 1
  split
  ·rw[cond_bind,Option.bind_assoc]
  ·rw[Option.bind_assoc]
   refine congrArg _ (funext fun zs=> ?_)
   rw[cond_bind,Option.bind_none,Option.bind_assoc]
  ·split
   ·rw[cond_bind,Option.bind_none]
    congr 1
    simp only[Option.bind_assoc]
   ·rfl
  ·rfl
 ·rfl
theorem appX_bind(E:Env)(t:TypeId)(H:List (Nat×AB))(df:List AV)(s x:AV)(d:Nat)(K:AV→List (Nat×AB)→List Nat→Option R)(G:R→Option S):
 (appX E t H df s x d K).bind G=appX E t H df s x d fun v ks nf=>(K v ks nf).bind G:=by
 unfold appX
 split
 ·split
  ·rw[cond_bind,Option.bind_none,appX0_bind]
  ·rfl
 ·exact appX0_bind E t H df _ x d K G
theorem stX_bind(E:Env)(t:TypeId)(av x:AV)(H:List (Nat×AB))(K:AV→List (Nat×AB)→List Nat→Option R)(G:R→Option S):
 (stX E t av x H K).bind G=stX E t av x H fun v ks nf=>(K v ks nf).bind G:=by
 unfold stX
 split
 ·split
  ·rw[cond_bind,Option.bind_none]
  ·rfl
 ·split
  ·rw[cond_bind,Option.bind_none,Option.bind_assoc]
  ·rfl
 ·rfl
theorem cpX_bind(E:Env)(t:TypeId)(H:List (Nat×AB))(s x:AV)(K:AV→List (Nat×AB)→List Nat→Option R)(G:R→Option S):
 (cpX E t H s x K).bind G=cpX E t H s x fun v ks nf=>(K v ks nf).bind G:=by
 unfold cpX
 rw[elemK_bind]
 refine congrArg _ (funext fun el=> ?_)
 split
 ·split
  ·rw[cond_bind,Option.bind_none,Option.bind_assoc]
  ·rfl
 ·split
  ·rw[cond_bind,Option.bind_none,Option.bind_assoc]
  ·rfl
 ·rw[Option.bind_assoc]
  refine congrArg _ (funext fun κ=> ?_)
  rw[cond_bind,Option.bind_none,Option.bind_assoc]
 ·rfl
theorem appZ_bind(E:Env)(t t':TypeId)(df:List AV)(s x:AV)(d:Nat)(K:AV→List (Nat×AB)→List Nat→Option R)(G:R→Option S):
 (appZ E t t' df s x d K).bind G=appZ E t t' df s x d fun v ks nf=>(K v ks nf).bind G:=by
 unfold appZ
 rw[elemK_bind]
 refine congrArg _ (funext fun el=> ?_)
 split
 ·split
  ·rw[cond_bind,Option.bind_none]
   congr 1
   split
   ·rw[cond_bind,Option.bind_none,Option.bind_assoc]
   ·rfl
  ·rfl
 ·rfl
theorem apX_bind(E:Env)(t:TypeId)(H:List (Nat×AB))(df:List AV)(s:AV)(d:Nat)(K:AV→List (Nat×AB)→List Nat→Option R)(G:R→Option S):
 (apX E t H df s d K).bind G=apX E t H df s d fun v ks nf=>(K v ks nf).bind G:=by
 unfold apX
 split
 ·split
  ·split
   ·rw[cond_bind,Option.bind_none]
    congr 1
    split<;>rfl
   ·rfl
  ·rfl
 ·rfl
theorem cutX_bind(E:Env)(t:TypeId)(H:List (Nat×AB))(df:List AV)(s hi:AV)(d:Nat)(K:AV→List (Nat×AB)→List Nat→Option R)(G:R→Option S):
 (cutX E t H df s hi d K).bind G=cutX E t H df s hi d fun v ks nf=>(K v ks nf).bind G:=by
 unfold cutX
 rw[elemK_bind]
 refine congrArg _ (funext fun el=> ?_)
 split
 ·split
  ·rw[cond_bind,Option.bind_none,Option.bind_assoc]
  ·rfl
 ·rfl
theorem slX_bind(E:Env)(t:TypeId)(H:List (Nat×AB))(df:List AV)(s:AV)(K:AV→List (Nat×AB)→List Nat→Option R)(G:R→Option S):
 (slX E t H df s K).bind G=slX E t H df s fun v ks nf=>(K v ks nf).bind G:=by
 unfold slX
 split
 ·split
  ·rw[cond_bind,Option.bind_none,Option.bind_assoc]
  ·rfl
 ·rfl
theorem nK_bind(df:List AV)(d:Nat)(K:AV→List (Nat×AB)→List Nat→Option R)(G:R→Option S):(fun v ob=>(nK df d K v ob).bind G)=nK df d fun v ks nf=>(K v ks nf).bind G:=by
 funext v ob
 cases ob with
 |none=>rfl
 |some b=>simp only[nK,cond_bind,Option.bind_none]
theorem invM_bind(E:Env)(args:Array Operand)(e:Operand→AV)(H:List (Nat×AB))(df:List AV)(d:Nat)(g:FuncId×AV)(K:AV→List (Nat×AB)→List Nat→Option R)(G:R→Option S):
 (invM E args e H df d g K).bind G=invM E args e H df d g fun v ks nf=>(K v ks nf).bind G:=by
 unfold invM
 rw[findC2_bind,findCon_bind]
 congr 1
 ·funext c x os ls
  rw[cond_bind,Option.bind_assoc]
  simp only[callX_bind];rfl
 ·congr 1
  funext c' x
  rw[cond_bind,Option.bind_assoc];rfl
theorem opM_bind(E:Env)(op:Op)(e:Operand→AV)(H:List (Nat×AB))(df:List AV)(d:Nat)(K:AV→List (Nat×AB)→List Nat→Option R)(G:R→Option S):
 (opM E op e H df d K).bind G=opM E op e H df d fun v ks nf=>(K v ks nf).bind G:=by
 have main:∀op:Op,(opA E op e H (fun v=>K v [] []) d).bind G=opA E op e H (fun v=>(K v [] []).bind G) d:=by
  intro op
  rw[opA_bind (K:=fun v=>K v [] []),opA_bind (K:=fun v=>(K v [] []).bind G),Option.bind_assoc]
 have new:∀op:Op,(opR E op e H (nK df d K) d).bind G=opR E op e H (nK df d fun v ks nf=>(K v ks nf).bind G) d:=by
  intro op
  rw[opR_bind,nK_bind]
 cases op<;>simp only[opM]<;>first|exact main _|exact new _|skip
 case store t a x=>exact stX_bind E t _ _ H K G
 case sliceToArrayPointer t x=>exact apX_bind E t H df _ d K G
 case slice t x lo hi mx=>
  cases lo with
  |some _=>cases hi<;>cases mx<;>exact main _
  |none=>
   cases hi with
   |some hi=>
    cases mx with
    |some _=>exact main _
    |none=>
     simp only
     rw[cond_bind,cutX_bind,main]
   |none=>
    cases mx with
    |some _=>exact main _
    |none=>
     simp only
     split
     ·exact slX_bind E t H df _ K G
     ·exact main _
 case buildSlice t len parts=>
  rw[cond_bind,new,Option.bind_assoc]
  congr 1
  congr 1
  funext gs
  rw[opA_bind (K:=fun v=>K v gs []),opA_bind (K:=fun v=>(K v gs []).bind G),Option.bind_assoc]
 case call c=>
  obtain⟨callee,args,ts⟩:=c
  cases callee with
  |builtin bi=>
   cases bi<;>simp only<;>first|exact main _|skip
   case append=>
    split
    ·rw[cond_bind,appX_bind,appZ_bind]
    ·rfl
   case copy=>
    split
    ·rw[cpX_bind]
    ·rfl
  |value f=>
   simp only
   split
   ·rw[findC2_bind,main]
    congr 1
    funext c x os ls
    rw[cond_bind,Option.bind_assoc]
    simp only[callX_bind];rfl
   ·rfl
  |invoke f nm=>
   simp only
   split
   ·simp only[methK_bind,invM_bind]
   ·simp only[dynK_bind,methK_bind,invM_bind]
   ·rfl
theorem opM_some{E:Env}{op:Op}{e:Operand→AV}{H:List (Nat×AB)}{df:List AV}{d:Nat}{K:AV→List (Nat×AB)→List Nat→Option R}{r:R}(h:opM E op e H df d K=some r):
 ∃v ks nf,opM E op e H df d (fun v ks nf=>some (v,ks,nf))=some (v,ks,nf)∧K v ks nf=some r:=by
 have:=opM_bind E op e H df d (fun v ks nf=>some (v,ks,nf)) fun t=>K t.1 t.2.1 t.2.2
 simp only[Option.bind_some]at this
 rw[←this]at h
 obtain⟨⟨v,ks,nf⟩,h1,h2⟩:=Option.bind_eq_some_iff.1 h
 exact⟨v,ks,nf,h1,h2⟩
theorem flatMap_same{α β:Type}{f g:α→List β}:∀{l:List α},(∀x∈l,f x=g x)→l.flatMap f=l.flatMap g
 |[],_=>rfl
 |a::l,h=>by simp only[List.flatMap_cons];rw[h a (by simp),flatMap_same fun x hx=>h x (by simp[hx])]
theorem mentL_parts{e:Operand→AV}{k:Nat}{x:Operand}{parts:Array (Nat×Operand)}(hx:∃n,(n,x)∈parts)(hk:mentL k (e x).flat=true):mentL k (partsF e parts)=true:=by
 obtain⟨n,hx⟩:=hx
 have key:∀l:List (Nat×Operand),(n,x)∈l→mentL k (l.flatMap fun p=>(e p.2).flat)=true:=by
  intro l
  induction l with
  |nil=>intro h;cases h
  |cons p l ih=>
   intro h
   rw[List.flatMap_cons,mentL_append,Bool.or_eq_true]
   rcases List.mem_cons.1 h with e|e
   ·subst e;exact .inl hk
   ·exact .inr (ih e)
 exact key _ (by simpa using hx)
theorem opM_congr(E:Env)(op:Op){e e':Operand→AV}(H:List (Nat×AB))(df:List AV)(K:AV→List (Nat×AB)→List Nat→Option R)(d:Nat)(h:∀x∈op.operands,e x=e' x):opM E op e H df d K=opM E op e' H df d K:=by
 cases op<;>simp only[opM]<;>first|exact opA_congr E _ H _ d h|exact opR_congr E _ H _ d h|skip
 case store t a x=>rw[h a (by simp[Op.operands]),h x (by simp[Op.operands])]
 case sliceToArrayPointer t x=>rw[h x (by simp[Op.operands])]
 case slice t x lo hi mx=>
  cases lo with
  |some _=>cases hi<;>cases mx<;>exact opA_congr E _ H _ d h
  |none=>
   cases hi with
   |some hi=>
    cases mx with
    |some _=>exact opA_congr E _ H _ d h
    |none=>
     simp only
     rw[opA_congr E _ H _ d h,h x (by simp[Op.operands]),h hi (by simp[Op.operands])]
   |none=>
    cases mx with
    |some _=>exact opA_congr E _ H _ d h
    |none=>
     simp only
     rw[opA_congr E _ H _ d h,h x (by simp[Op.operands])]
 case buildSlice t len parts=>
  have hp:partsF e parts=partsF e' parts:=by
   unfold partsF
   rw[←List.flatMap_map (f:=Prod.snd) (g:=fun x=>(e x).flat),←List.flatMap_map (f:=Prod.snd) (g:=fun x=>(e' x).flat)]
   refine flatMap_same fun x hx=> ?_
   rw[h x (by simpa[Op.operands]using hx)]
  rw[opR_congr E _ H _ d h,hp]
  congr 2
  funext gs
  exact opA_congr E _ _ _ d fun x hx=>by rw[h x hx]
 case call c=>
  obtain⟨callee,args,ts⟩:=c
  have hargs:args.toList.map e=args.toList.map e':=List.map_congr_left fun p hp=>h p (by
   simp only[Op.operands,Call.operands,Array.mem_append]
   exact .inr (by simpa using hp))
  cases callee with
  |builtin bi=>
   cases bi<;>simp only<;>first|exact opA_congr E _ H _ d h|skip
   case append=>
    split
    ·rename_i s x t t' ha _
     have hx:∀y∈args,e y=e' y:=fun y hy=>h y (by simp only[Op.operands,Call.operands,Array.mem_append];exact .inr hy)
     rw[hx s (by simpa using(show s∈args.toList by rw[ha];simp)),hx x (by simpa using(show x∈args.toList by rw[ha];simp))]
    ·rfl
   case copy=>
    split
    ·rename_i s x t t' ha _
     have hx:∀y∈args,e y=e' y:=fun y hy=>h y (by simp only[Op.operands,Call.operands,Array.mem_append];exact .inr hy)
     rw[hx s (by simpa using(show s∈args.toList by rw[ha];simp)),hx x (by simpa using(show x∈args.toList by rw[ha];simp))]
    ·rfl
  |value f=>
   have hf:e f=e' f:=h f (by simp[Op.operands,Call.operands])
   simp only
   rw[hf,hargs,opA_congr E _ H _ d h]
  |invoke f nm=>
   have hf:e f=e' f:=h f (by simp[Op.operands,Call.operands])
   simp only[hf,invM,hargs]
end
section
variable {P:Program} {w0:Root} {Fz0:Nat→Prop} {ι:Nat→HI} {Fz:Nat→Prop} {H:List (Nat×AB)} {w:World}
theorem opA_of{o:Oper}{a:Act}{E:Env}{e:Operand→AV}{d:Nat}{v:AV}(hΓ:∀c∈E.cons,c.Sound E.P w0.gl)(m:Mem w0 Fz0 ι Fz H w)
 (he:∀x,RV ι Fz w (e x) (a.eval x)) (h:opA E o.op e H some d=some v):OpGives E.P o a w (After w0 Fz0 ι Fz H w d v none):=by
 have main:opR E o.op e H (aK some) d=some v→OpGives E.P o a w (After w0 Fz0 ι Fz H w d v none):=by
  intro h
  obtain⟨v',ob,hk,hg⟩:=opR_of hΓ m he h
  cases ob with
  |some b=>cases hk
  |none=>
   simp only[aK,Option.some.injEq]at hk
   subst hk
   exact hg (fun b hb=>by cases hb)
 generalize ho:o.op=op at h
 cases op<;>simp only[opA]at h<;>first|exact main (by rw[ho];exact h)|skip
 rename_i t len parts
 cases hpl:plainSl E t with
 |false=>
  obtain⟨v1,b1,hk,_⟩:=buildBsl_of m he h hpl
  unfold opR at h
  obtain⟨el,hu,h⟩:=elemK_of h
  split at h
  ·rename_i κ hkd
   simp[plainSl,hu,hkd]at hpl
  ·cases hc:(sizeB E.P el 1&&zeroSome E.P el&&Nat.ble 1 len&&Nat.beq parts.size len&&Nat.ble len 1000&&inOrder 0 (parts.toList.map Prod.fst)&&(parts.toList.map fun p=>e p.2).all AV.single)with
   |false=>rw[hc]at h;cases h
   |true=>rw[hc]at h;simp[bK]at h
 |true=>
 obtain⟨el,κ,xs,hk,v',w',hr,ha⟩:=buildSlice_frz (d':=d) m he h hpl
 simp only[bK,decide_true,cond_true,Option.some.injEq]at hk
 subst hk
 refine .inl ⟨v',w', ?_,ha⟩
 simp only[execOp,ho]
 simp[hr]
theorem getH_sub(H:List (Nat×AB)):∀(l:List Nat) (h:Nat),(h∈l∧getH (keepHp H l) h=getH H h)∨(h∉l∧getH (keepHp H l) h= .gone)
 |[],h=> .inr ⟨by simp,rfl⟩
 |s::l,h=>by
  have e:getH (keepHp H (s::l)) h=if s=h then getH H s else getH (keepHp H l) h:=by
   show getH ((s,getH H s)::keepHp H l) h=_
   rw[getH_cons]
  by_cases hs:s=h
  ·subst hs;left;exact⟨by simp,by rw[e,if_pos rfl]⟩
  ·rcases getH_sub H l h with⟨h1,h2⟩|⟨h1,h2⟩
   ·left;exact⟨by simp[h1],by rw[e,if_neg hs,h2]⟩
   ·right;exact⟨by simp only[List.mem_cons,not_or];exact⟨Ne.symm hs,h1⟩,by rw[e,if_neg hs,h2]⟩
def Root.sub(gl:List Gl)(w:World)(ι:Nat→HI)(H:List (Nat×AB))(fp:List Nat):Root:=
 ⟨w,fun b=>w.heap.size≤b∨∃h∈fp,(getH H h).live∧(ι h).virt=false∧(ι h).blk=b,fun _ hb=> .inl hb,ι,gl⟩
theorem Mem.sub(m:Mem w0 Fz0 ι Fz H w)(fp:List Nat):Mem (Root.sub w0.gl w ι H fp) Fz ι Fz (keepHp H fp) w:=by
 have live:∀k,(getH (keepHp H fp) k).live→k∈fp∧(getH H k).live:=fun k hk=>by
  rcases getH_sub H fp k with⟨h1,h2⟩|⟨h1,h2⟩
  ·exact⟨h1,by rwa[h2]at hk⟩
  ·rw[h2]at hk;exact hk.elim
 refine⟨Bel.refl _ _,m.fz,fun _ h=>h,fun _ h=> .inl h,fun k=> ?_,fun k hk hv=> ?_,fun k k' hk hk'=>m.inj k k' (live k hk).2 (live k' hk').2,fun _ _=>rfl,fun k=> ?_,m.gok,fun b hb=> ?_⟩
 ·rcases getH_sub H fp k with⟨h1,h2⟩|⟨h1,h2⟩
  ·rw[h2];exact m.rb k
  ·rw[h2];trivial
 ·obtain⟨h1,h2⟩:=live k hk
  obtain⟨_,b,c⟩:=m.sep k h2 hv
  exact⟨.inr ⟨k,h1,h2,hv,rfl⟩,b,c⟩
 ·rcases getH_sub H fp k with⟨h1,h2⟩|⟨h1,h2⟩
  ·rw[h2];exact m.cn k
  ·rw[h2];trivial
 ·rintro (h|⟨k,_,h1,h2,rfl⟩)
  ·have:=m.fz b hb;omega
  ·exact(m.sep k h1 h2).2.2 hb
theorem sub_own{fp:List Nat}(m:Mem w0 Fz0 ι Fz H w){b:Nat}(h:(Root.sub w0.gl w ι H fp).own b):w0.own b:=by
 rcases h with h|⟨k,_,h1,h2,rfl⟩
 ·exact w0.big b (Nat.le_trans m.below.size h)
 ·exact(m.sep k h1 h2).1
theorem sub_fz{fp:List Nat}(m:Mem w0 Fz0 ι Fz H w){b:Nat}(hb:Fz b):¬(Root.sub w0.gl w ι H fp).own b:=by
 rintro (h|⟨k,_,h1,h2,rfl⟩)
 ·have:=m.fz b hb;omega
 ·exact(m.sep k h1 h2).2.2 hb
theorem sub_other{fp:List Nat}(m:Mem w0 Fz0 ι Fz H w){k:Nat}(hk:k∉fp)(hl:(getH H k).live)(hv:(ι k).virt=false):¬(Root.sub w0.gl w ι H fp).own (ι k).blk:=by
 rintro (h|⟨g,hg,h1,h2,he⟩)
 ·have:=(m.sep k hl hv).2.1;omega
 ·exact hk (m.inj g k h1 hl h2 hv he▸hg)
theorem RVs_noment{ι':Nat→HI}{Fz':Nat→Prop}{w':World}{nf:List Nat}(hw:∀b,Fz b→w'.heap[b]?=w.heap[b]?)(hf:∀b,Fz b→Fz' b)(hι:∀n,n∉nf→ι' n=ι n){cs:List AV}{vs:List Value}
 (hno:∀n∈nf,mentL n cs=false) (h:RVs ι Fz w cs vs):RVs ι' Fz' w' cs vs:=
 RVs_mono hw hf cs vs (fun k hk=>hι k fun hin=>by rw[hno k hin]at hk;cases hk) h
theorem Mem.frame{fp nf ks:List Nat}{Hl H':List (Nat×AB)}{w':World}{ι':Nat→HI}{Fz':Nat→Prop}(m:Mem w0 Fz0 ι Fz H w)(ml:Mem (Root.sub w0.gl w ι H fp) Fz ι' Fz' Hl w')
 (hι:∀n,n∉nf→ι' n=ι n) (hnf:∀n∈nf,n∈ks) (hno:∀n∈nf,∀h,(getH H h).ment n=false)
 (h1:∀h,h∈fp∨h∈ks→getH H' h=getH Hl h) (h2:∀h,h∉fp→h∉ks→getH H' h=getH H h):Mem w0 Fz0 ι' Fz' H' w':=by
 have hbel:Bel (Root.sub w0.gl w ι H fp).own w w':=ml.below
 have hw:∀b,Fz b→w'.heap[b]?=w.heap[b]?:=fun b hb=>hbel.block b (sub_fz m hb)
 have hι2:∀h,h∉ks→ι' h=ι h:=fun h hh=>hι h fun hin=>hh (hnf h hin)
 have cs:∀h,(h∈fp∨h∈ks)∨(h∉fp∧h∉ks):=fun h=>by
  by_cases a:h∈fp
  ·exact .inl (.inl a)
  ·by_cases b:h∈ks
   ·exact .inl (.inr b)
   ·exact .inr ⟨a,b⟩
 refine⟨m.below.trans ⟨hbel.os,hbel.tape,hbel.output,hbel.size,fun k hk=>hbel.block k fun ho=>hk (sub_own m ho)⟩,ml.fz,fun b hb=>ml.fz0 b (m.fz0 b hb),fun b hb=> ?_,fun h=> ?_,fun h hl hv=> ?_,fun h h' hl hl' hv hv' he=> ?_,fun h hh=>(ml.iot h hh).trans (m.iot h hh),fun h=> ?_,m.gz⟩
 ·rcases ml.fzn b hb with hb|hb
  ·exact m.fzn b hb
  ·exact .inr (sub_own m hb)
 ·rcases cs h with hh|⟨ha,hb⟩
  ·rw[h1 h hh];exact ml.rb h
  ·rw[h2 h ha hb]
   have hrb:=m.rb h
   have hn:∀n∈nf,(getH H h).ment n=false:=fun n hn=>hno n hn h
   have hblk:(getH H h).live→(ι h).virt=false→w'.heap[(ι h).blk]?=w.heap[(ι h).blk]?:=fun hl hv=>hbel.block _ (sub_other m ha hl hv)
   generalize getH H h=bb at hrb hn hblk
   cases bb with
   |gone=>trivial
   |box cs=>
    simp only[RB]at hrb⊢
    rw[hι2 h hb]
    obtain⟨hv,vs,T,g1,g2,g3⟩:=hrb
    exact⟨hv,vs,T,by rw[hblk trivial hv];exact g1,RVs_noment hw ml.fz0 hι (fun n hn'=>by simpa[AB.ment]using hn n hn') g2,g3⟩
   |arr e κ xs=>
    simp only[RB]at hrb⊢
    rw[hι2 h hb]
    refine⟨hrb.1, ?_⟩
    rcases hrb.2 with g2|⟨hv,vs,g1,g2,g3,g4,g5⟩
    ·exact .inl g2
    ·refine .inr ⟨hv,vs,by rw[hblk trivial hv];exact g1,g2,g3,g4,fun i x hx=> ?_⟩
     obtain⟨es,a,b,c⟩:=g5 i x hx
     exact⟨es,RP_mono hw ml.fz0 _ _ _ a,b,c⟩
 ·rcases cs h with hh|⟨ha,hb⟩
  ·rw[h1 h hh]at hl
   obtain⟨a,b,c⟩:=ml.sep h hl hv
   exact⟨sub_own m a,b,c⟩
  ·rw[h2 h ha hb]at hl
   rw[hι2 h hb]at hv⊢
   obtain⟨a,b,c⟩:=m.sep h hl hv
   refine⟨a,Nat.lt_of_lt_of_le b hbel.size,fun hF=> ?_⟩
   rcases ml.fzn _ hF with hF|hF
   ·exact c hF
   ·exact sub_other m ha hl hv hF
 ·rcases cs h with hh|⟨ha,hb⟩
  ·rw[h1 h hh]at hl
   rcases cs h' with hh'|⟨ha',hb'⟩
   ·rw[h1 h' hh']at hl'
    exact ml.inj h h' hl hl' hv hv' he
   ·rw[h2 h' ha' hb']at hl'
    rw[hι2 h' hb']at hv' he
    exact absurd (he▸(ml.sep h hl hv).1) (sub_other m ha' hl' hv')
  ·rw[h2 h ha hb]at hl
   rw[hι2 h hb]at hv he
   rcases cs h' with hh'|⟨ha',hb'⟩
   ·rw[h1 h' hh']at hl'
    exact absurd (he▸(ml.sep h' hl' hv').1) (sub_other m ha hl hv)
   ·rw[h2 h' ha' hb']at hl'
    rw[hι2 h' hb']at hv' he
    exact m.inj h h' hl hl' hv hv' he
 ·rcases cs h with hh|⟨ha,hb⟩
  ·rw[h1 h hh];exact ml.cn h
  ·rw[h2 h ha hb,hι2 h hb];exact m.cn h
theorem getH_ks:∀(ks H:List (Nat×AB)) (h:Nat),h∈ks.map Prod.fst→getH (ks++H) h=getH ks h
 |[],H,h,hh=>by simp at hh
 |(n,b)::ks,H,h,hh=>by
  rw[List.cons_append,getH_cons,getH_cons]
  by_cases e:n=h
  ·rw[if_pos e,if_pos e]
  ·rw[if_neg e,if_neg e]
   refine getH_ks ks H h ?_
   simp only[List.map_cons,List.mem_cons]at hh
   exact hh.resolve_left (Ne.symm e)
theorem getH_notks:∀(ks H:List (Nat×AB)) (h:Nat),h∉ks.map Prod.fst→getH (ks++H) h=getH H h
 |[],H,h,hh=>rfl
 |(n,b)::ks,H,h,hh=>by
  simp only[List.map_cons,List.mem_cons,not_or]at hh
  rw[List.cons_append,getH_cons,if_neg (Ne.symm hh.1)]
  exact getH_notks ks H h hh.2
def GivesM(w0:Root)(Fz0:Nat→Prop)(ι:Nat→HI)(H:List (Nat×AB))(v:AV)(ks:List (Nat×AB))(nf:List Nat)(v':Value)(w':World):Prop:=
 ∃(ι':Nat→HI) (Fz':Nat→Prop) (Hl:List (Nat×AB)),Mem w0 Fz0 ι' Fz' Hl w'∧RV ι' Fz' w' v v'∧(∀n,n∉nf→ι' n=ι n)∧
  (∀h,h∈ks.map Prod.fst→getH Hl h=getH ks h)∧(∀h,h∉ks.map Prod.fst→getH Hl h=AB.strikeLs nf (getH H h))
theorem frz1_of{F1:Nat→Prop}(hrb:∀h,RB ι Fz w h (getH H h))(hf:∀b,Fz b→F1 b){c:AV}{v:Value}(hm:∀h,c.ment h=true→(getH H h).live→(ι h).virt=false→F1 (ι h).blk)(hr:RV ι Fz w c v):RV ι F1 w (c.frz1 H) v:=by
 cases c with
 |own κ h=>
  simp only[AV.frz1]
  split
  ·rename_i e κ' xs hg
   exact leafD_of hrb hf (κ:= .list κ') rfl (a:= .own κ h) (by simp[leafD,leaf0,hg,castD]) hr (fun k hk hl hv=>hm k hk (by revert hl;cases getH H k<;>simp[AB.isArr,AB.live]) hv)
  ·simp only[RV]
 |sub κ h off len=>
  simp only[AV.frz1]
  split
  ·rename_i e κ' xs hg
   cases hk:decide (κ=κ')with
   |false=>simp only[cond_false,RV]
   |true=>exact leafD_of hrb hf (κ:= .list κ') rfl (a:= .sub κ h off len) (by simp[leafD,leaf0,hg,castD,hk]) hr (fun k hk hl hv=>hm k hk (by revert hl;cases getH H k<;>simp[AB.isArr,AB.live]) hv)
  ·simp only[RV]
 |_=>exact RV_mono (fun _ _=>rfl) hf _ v (fun _ _=>rfl) hr
theorem frz1s_of{F1:Nat→Prop}(hrb:∀h,RB ι Fz w h (getH H h))(hf:∀b,Fz b→F1 b):∀{cs:List AV} {vs:List Value},(∀h,mentL h cs=true→(getH H h).live→(ι h).virt=false→F1 (ι h).blk)→RVs ι Fz w cs vs→RVs ι F1 w (cs.map (AV.frz1 H)) vs
 |[],vs,hm,h=>by simp only[RVs,List.map_nil]at h⊢;exact h
 |c::cs,vs,hm,h=>by
  simp only[RVs,List.map_cons]at h⊢
  obtain⟨v,r,e,h1,h2⟩:=h
  exact⟨v,r,e,frz1_of hrb hf (fun k hk=>hm k (by simp[mentL,hk])) h1,frz1s_of hrb hf (fun k hk=>hm k (by simp[mentL,hk])) h2⟩
theorem frzV_of{F1:Nat→Prop}(hrb:∀h,RB ι Fz w h (getH H h))(hf:∀b,Fz b→F1 b){c:AV}{v:Value}(hm:∀h,mentL h c.flat=true→(getH H h).live→(ι h).virt=false→F1 (ι h).blk)(hr:RV ι Fz w c v):RV ι F1 w (c.frzV H) v:=by
 cases c with
 |agg cs=>
  simp only[AV.frzV,RV]at hr⊢
  obtain⟨vs,e,h1,h2⟩:=hr
  exact⟨vs,e,h1,frz1s_of hrb hf hm h2⟩
 |pv κ x=>exact RV_mono (fun _ _=>rfl) hf _ v (fun _ _=>rfl) hr
 |_=>exact frz1_of hrb hf (fun k hk=>hm k (by simpa[AV.flat,mentL]using hk)) hr
theorem opM_of{o:Oper}{a:Act}{E:Env}{e:Operand→AV}{df:List AV}{d:Nat}{v:AV}{ks:List (Nat×AB)}{nf:List Nat}(hΓ:EnvOk E w0.gl)(m:Mem w0 Fz0 ι Fz H w)
 (he:∀x,RV ι Fz w (e x) (a.eval x)) (hdf:RD ι Fz w df a.defers) (h:opM E o.op e H df d (fun v ks nf=>some (v,ks,nf))=some (v,ks,nf)):
 nf.all (okNew df)=true∧(∀n∈nf,n∈ks.map Prod.fst)∧OpGives E.P o a w (GivesM w0 Fz0 ι H v ks nf):=by
 have read:opA E o.op e H (fun v=>some (v,([]:List (Nat×AB)),([]:List Nat))) d=some (v,ks,nf)→nf.all (okNew df)=true∧(∀n∈nf,n∈ks.map Prod.fst)∧OpGives E.P o a w (GivesM w0 Fz0 ι H v ks nf):=by
  intro h
  obtain⟨v1,h1,h2⟩:=opA_some h
  simp only[Option.some.injEq,Prod.mk.injEq]at h2
  obtain⟨rfl,rfl,rfl⟩:=h2
  refine⟨rfl,fun n hn=>by simp at hn,(opA_of hΓ.c1 m he h1).mono ?_⟩
  rintro v' w' ⟨ι',Fz',g1,g2,g3,g4,g5⟩
  have e1:ι'=ι:=funext fun k=>g3 k (.inl rfl)
  subst e1
  exact⟨ι',Fz',H,g4,g5,fun _ _=>rfl,fun h hh=>by simp at hh,fun h _=>rfl⟩
 have new:opR E o.op e H (nK df d fun v ks nf=>some (v,ks,nf)) d=some (v,ks,nf)→nf.all (okNew df)=true∧(∀n∈nf,n∈ks.map Prod.fst)∧OpGives E.P o a w (GivesM w0 Fz0 ι H v ks nf):=by
  intro h
  obtain⟨v1,ob,h1,hg⟩:=opR_of hΓ.c1 m he h
  cases ob with
  |none=>simp[nK]at h1
  |some bl=>
   simp only[nK]at h1
   cases hc:(okNew df d&& !bl.ment d)with
   |false=>rw[hc]at h1;cases h1
   |true=>
    rw[hc,cond_true]at h1
    simp only[Option.some.injEq,Prod.mk.injEq]at h1
    obtain⟨rfl,rfl,rfl⟩:=h1
    simp only[Bool.and_eq_true,Bool.not_eq_true']at hc
    refine⟨by simp[hc.1],fun n hn=>by simpa using hn,(hg (fun b hb=>by cases hb;exact⟨hc.2,(okNew_df hc.1).2⟩)).mono ?_⟩
    rintro v' w' ⟨ι',Fz',g1,g2,g3,g4,g5⟩
    refine⟨ι',Fz',_,g4,g5,fun n hn=>g3 n (.inr (by simpa using hn)),fun h hh=> ?_,fun h hh=> ?_⟩
    ·simp only[List.map_cons,List.map_nil,List.mem_singleton]at hh
     subst hh
     simp[getH_cons]
    ·simp only[List.map_cons,List.map_nil,List.mem_singleton]at hh
     rw[getH_cons,if_neg (Ne.symm hh),getH_strike]
     rfl
 generalize ho:o.op=op at h read new
 cases op<;>simp only[opM]at h<;>first|exact read h|exact new h|skip
 case store t x y=>
  have hb:Behind w0 Fz0 ι Fz ⟨[],H,df⟩ a w:=⟨fun t=>by simp[getF,RV],hdf,m⟩
  obtain⟨ks1,hk,w',hr,hb'⟩:=stX_of (st:=⟨[],H,df⟩) hb (he x) (he y) h
  simp only[Option.some.injEq,Prod.mk.injEq]at hk
  obtain⟨rfl,rfl,rfl⟩:=hk
  refine⟨rfl,fun n hn=>by simp at hn, .inr (.inl ⟨w',by simp[execOp,ho,hr],ι,Fz,_,hb'.2.2,by simp[RV],fun _ _=>rfl,fun h hh=>getH_ks _ _ _ hh,fun h hh=> ?_⟩)⟩
  rw[getH_notks _ _ _ hh];rfl
 case sliceToArrayPointer t x=>
  have hb:Behind w0 Fz0 ι Fz ⟨[],H,df⟩ a w:=⟨fun t=>by simp[getF,RV],hdf,m⟩
  obtain⟨v1,ks1,hk,hn,hks,v',hr,ι',hb',hv',hι⟩:=apX_of (st:=⟨[],H,df⟩) hb (he x) h
  simp only[Option.some.injEq,Prod.mk.injEq]at hk
  obtain⟨rfl,rfl,rfl⟩:=hk
  refine⟨by simp[hn],fun n hn=>by simp only[List.mem_singleton]at hn;rw[hn];exact hks, .inl ⟨v',w,by simp[execOp,ho,hr],ι',Fz,_,hb'.2.2,hv',fun n hn=>hι n (by simpa using hn),fun h hh=>getH_ks _ _ _ hh,fun h hh=> ?_⟩⟩
  rw[getH_notks _ _ _ hh,getH_strike];rfl
 case slice t x lo hi mx=>
  cases lo with
  |some _=>cases hi<;>cases mx<;>exact read h
  |none=>
   cases hi with
   |some hi=>
    cases mx with
    |some _=>exact read h
    |none=>
     simp only at h
     cases hcu:memN E.cut d with
     |false=>rw[hcu,cond_false]at h;exact read h
     |true=>
      rw[hcu,cond_true]at h
      have hb:Behind w0 Fz0 ι Fz ⟨[],H,df⟩ a w:=⟨fun t=>by simp[getF,RV],hdf,m⟩
      obtain⟨v1,ks1,hk,hn,hks,v',hr,ι',hb',hv',hι⟩:=cutX_of (st:=⟨[],H,df⟩) hb (he x) (he hi) h
      simp only[Option.some.injEq,Prod.mk.injEq]at hk
      obtain⟨rfl,rfl,rfl⟩:=hk
      refine⟨by simp[hn],fun n hn=>by simp only[List.mem_singleton]at hn;rw[hn];exact hks, .inl ⟨v',w,by simp[execOp,ho,hr],ι',Fz,_,hb'.2.2,hv',fun n hn=>hι n (by simpa using hn),fun h hh=>getH_ks _ _ _ hh,fun h hh=> ?_⟩⟩
      rw[getH_notks _ _ _ hh,getH_strike];rfl
   |none=>
    cases mx with
    |some _=>exact read h
    |none=>
     simp only at h
     split at h
     ·rename_i g off hg
      have hx:=he x
      rw[hg]at hx
      obtain⟨v1,ks1,hk,v',hr,Fz',hf,m',hv'⟩:=slX_of (st:=⟨[],H,df⟩) m hx h
      simp only[Option.some.injEq,Prod.mk.injEq]at hk
      obtain⟨rfl,rfl,rfl⟩:=hk
      refine⟨rfl,fun n hn=>by simp at hn, .inl ⟨v',w,by simp[execOp,ho,hr],ι,Fz',_,m',hv',fun _ _=>rfl,fun h hh=>getH_ks _ _ _ hh,fun h hh=> ?_⟩⟩
      rw[getH_notks _ _ _ hh];rfl
     ·exact read h
 case buildSlice t len parts=>
  cases hl:(Nat.beq len 0|| !plainSl E t)with
  |true=>rw[hl,cond_true]at h;exact new h
  |false=>
   rw[hl,cond_false]at h
   obtain⟨gs,hgs,h⟩:=Option.bind_eq_some_iff.1 h
   have hb:Behind w0 Fz0 ι Fz ⟨[],H,df⟩ a w:=⟨fun t=>by simp[getF,RV],hdf,m⟩
   obtain⟨_,F1,f1,b1,g2,_,_⟩:=gonesOf_of (st:=⟨[],H,df⟩) _ hgs hb
   obtain⟨v1,h1,h2⟩:=opA_some h
   simp only[Option.some.injEq,Prod.mk.injEq]at h2
   obtain⟨rfl,rfl,rfl⟩:=h2
   classical
   rw[opA_congr E _ _ _ d (e':=fun x=>if x∈(Op.buildSlice t len parts).operands then(e x).frzV H else .dead) (fun x hx=>by rw[if_pos hx]),←ho]at h1
   refine⟨rfl,fun n hn=>by simp at hn,(opA_of hΓ.c1 b1.2.2 (fun x=> ?_) h1).mono ?_⟩
   ·split
    ·rename_i hx
     refine frzV_of m.rb f1 (fun k hk hl hv=> ?_) (he x)
     exact g2 k (mentL_parts (by rw[ho]at hx;simpa[Op.operands]using hx) hk) hl hv
    ·simp only[RV]
   ·rintro v' w' ⟨ι',Fz',g1,g2,g3,g4,g5⟩
    have e1:ι'=ι:=funext fun k=>g3 k (.inl rfl)
    subst e1
    exact⟨ι',Fz',_,g4,g5,fun _ _=>rfl,fun h hh=>getH_ks _ _ _ hh,fun h hh=>getH_notks _ _ _ hh⟩
 case call c=>
  obtain⟨callee,args,ts⟩:=c
  cases callee with
  |builtin bi=>
   cases bi<;>simp only at h<;>first|exact read h|skip
   case append=>
    split at h
    ·rename_i s x t t' hax hat
     have hargs:args= #[s,x]:=by apply Array.ext';simpa using hax
     have hts:ts= #[t,t']:=by apply Array.ext';simpa using hat
     subst hargs hts
     cases ht:sameSl E.P t t' with
     |false=>
      rw[ht,cond_false]at h
      have hb:Behind w0 Fz0 ι Fz ⟨[],H,df⟩ a w:=⟨fun t=>by simp[getF,RV],hdf,m⟩
      obtain⟨v1,ks1,hk,hn,hks,v',w',hr,ι',Fz',hb',hv',hι⟩:=appZ_of (ty:=o.type) (st:=⟨[],H,df⟩) hb (he s) (he x) h
      simp only[Option.some.injEq,Prod.mk.injEq]at hk
      obtain⟨rfl,rfl,rfl⟩:=hk
      refine⟨by simp[hn],fun n hn=>by simp only[List.mem_singleton]at hn;rw[hn];exact hks, .inl ⟨v',w',by simp[execOp,ho,resolve,invoke,builtin,hr],ι',Fz',_,hb'.2.2,hv',fun n hn=>hι n (by simpa using hn),fun h hh=>getH_ks _ _ _ hh,fun h hh=> ?_⟩⟩
      rw[getH_notks _ _ _ hh,getH_strike];rfl
     |true=>
      rw[ht,cond_true]at h
      have hb:Behind w0 Fz0 ι Fz ⟨[],H,df⟩ a w:=⟨fun t=>by simp[getF,RV],hdf,m⟩
      obtain⟨v1,ks1,hk,hn,hks,v',w',hr,ι',Fz',hb',hv',hι⟩:=appX_of (ty:=o.type) (st:=⟨[],H,df⟩) hb (he s) (he x) ht h
      simp only[Option.some.injEq,Prod.mk.injEq]at hk
      obtain⟨rfl,rfl,rfl⟩:=hk
      refine⟨by simp[hn],fun n hn=>by simp only[List.mem_singleton]at hn;rw[hn];exact hks, .inl ⟨v',w',by simp[execOp,ho,resolve,invoke,builtin,hr],ι',Fz',_,hb'.2.2,hv',fun n hn=>hι n (by simpa using hn),fun h hh=>getH_ks _ _ _ hh,fun h hh=> ?_⟩⟩
      rw[getH_notks _ _ _ hh,getH_strike];rfl
    ·cases h
   case copy=>
    split at h
    ·rename_i s x t t' hax hat
     have hargs:args= #[s,x]:=by apply Array.ext';simpa using hax
     have hts:ts= #[t,t']:=by apply Array.ext';simpa using hat
     subst hargs hts
     have hb:Behind w0 Fz0 ι Fz ⟨[],H,df⟩ a w:=⟨fun t=>by simp[getF,RV],hdf,m⟩
     obtain⟨n,ks1,hk,w',hr,hb'⟩:=cpX_of (st:=⟨[],H,df⟩) hb (he s) (he x) h
     simp only[Option.some.injEq,Prod.mk.injEq]at hk
     obtain⟨rfl,rfl,rfl⟩:=hk
     refine⟨rfl,fun n hn=>by simp at hn, .inl ⟨.int .i64 n,w',by simp[execOp,ho,resolve,invoke,builtin,hr],ι,Fz,_,hb'.2.2,RV_int.2 rfl,fun _ _=>rfl,fun h hh=>getH_ks _ _ _ hh,fun h hh=> ?_⟩⟩
     rw[getH_notks _ _ _ hh];rfl
    ·cases h
  |value f=>
   simp only at h
   split at h
   ·rename_i g caps hf
    have hef:=he f
    rw[hf]at hef
    simp only[RV]at hef
    obtain⟨cv,hfe,hcv⟩:=hef
    have hrv0:RVs ι Fz w (args.toList.map e++caps) (args.toList.map a.eval++cv):=RVs_append (RVs_map he _) hcv
    rcases findC2_of h with h|⟨c2,hc2,rfl,x2,os,ls,hm2,h⟩
    ·exact read h
    ·cases hok:ownOk os ls with
     |false=>rw[hok]at h;cases h
     |true=>
      rw[hok,cond_true]at h
      have hb:Behind w0 Fz0 ι Fz ⟨[],H,df⟩ a w:=⟨fun t=>by simp[getF,RV],hdf,m⟩
      obtain⟨gs,hgs,h⟩:=Option.bind_eq_some_iff.1 h
      have hall:∀e∈gs,e.2=AB.gone:=by
       cases hs:allSafe c2.alts with
       |true=>rw[hs,cond_true]at hgs;simp only[Option.some.injEq]at hgs;subst hgs;intro e he;simp at he
       |false=>rw[hs,cond_false]at hgs;exact(gonesOf_of (st:=⟨[],H,df⟩) _ hgs hb).1
      obtain⟨v1,ks1,nf1,hk,hn,hks,hg⟩:=callX_core (st:=⟨[],H,df⟩) (st1:=⟨[],gs++H,df⟩) (hΓ.c2 c2 (Env.c2at_mem hc2)) hb hm2 hrv0 hok (fun hl hm=>by
       cases hs:allSafe c2.alts with
       |true=>
        rw[hs,cond_true]at hgs;simp only[Option.some.injEq]at hgs;subst hgs
        have:=ready_frz (c:=c2) (st1:=⟨[],H,df⟩) (os:=os) (ls:=ls) hb (by rw[hs];rfl) hl hm
        rw[hs]at this
        exact this
       |false=>
        rw[hs,cond_false]at hgs
        have:=ready_gone (c:=c2) (os:=os) (ls:=ls) (st:=⟨[],H,df⟩) hb hgs hl hm
        rw[hs]at this
        exact this) h
      simp only[Option.some.injEq,Prod.mk.injEq]at hk
      obtain⟨rfl,rfl,rfl⟩:=hk
      refine⟨hn,fun n hn'=>by rw[List.map_append,List.mem_append];exact .inl (hks n hn'),OpGives.call ho hfe (hg.mono ?_)⟩
      rintro v' w' ⟨ι',Fz',hb',hv',hι⟩
      have goneAt:∀(gs:List (Nat×AB)) (h:Nat),(∀e∈gs,e.2=AB.gone)→getH gs h=AB.gone:=by
       intro gs h
       induction gs with
       |nil=>intro _;rfl
       |cons e gs ih=>
        intro hh
        obtain⟨n,bb⟩:=e
        rw[getH_cons]
        split
        ·exact hh (n,bb) (by simp)
        ·exact ih fun e he=>hh e (by simp[he])
      refine⟨ι',Fz',_,hb'.2.2,hv',hι,fun h hh=> ?_,fun h hh=> ?_⟩
      ·by_cases hk:h∈ks1.map Prod.fst
       ·rw[getH_ks _ _ _ hk,getH_ks _ _ _ hk]
       ·rw[List.map_append,List.mem_append]at hh
        have hg2:=hh.resolve_left hk
        rw[getH_notks _ _ _ hk,getH_notks _ _ _ hk,(freshL_spec nf1 ⟨[],gs++H,df⟩).2.1,getH_ks _ _ _ hg2,goneAt gs h hall]
        exact strikeLs_gone _
      ·rw[List.map_append,List.mem_append,not_or]at hh
       rw[getH_notks _ _ _ hh.1,(freshL_spec nf1 ⟨[],gs++H,df⟩).2.1,getH_notks _ _ _ hh.2]
   ·cases h
  |invoke f nm=>
   simp only at h
   have key:∀t u u',a.eval f= .iface t u'→RV ι Fz w u u'→(methK E t nm u fun g=>invM E args e H df d g fun v ks nf=>some (v,ks,nf))=some (v,ks,nf)→
    nf.all (okNew df)=true∧(∀n∈nf,n∈ks.map Prod.fst)∧OpGives E.P o a w (GivesM w0 Fz0 ι H v ks nf):=by
    intro t u u' hfe hu h
    obtain⟨g,x,h,x',hm0,hx0⟩:=methK_of (w:=w) h hu
    unfold invM at h
    have hrv0:RVs ι Fz w (x::args.toList.map e) (x'::args.toList.map a.eval):=by
     simp only[RVs]
     exact⟨x',_,rfl,hx0,RVs_map he _⟩
    have hq:=findC2_of h
    clear h
    rcases hq with h|⟨c2,hc2,hcf,x2,os,ls,hm2,h⟩
    ·obtain⟨v1,hk,hg⟩:=callR_core (K:=fun v _=>some (v,([]:List (Nat×AB)),([]:List Nat))) (d:=d) (E:=E) hΓ.c1 m hrv0 (fun G hG=>OpGives.callI ho hfe hm0 hG) h
     simp only[Option.some.injEq,Prod.mk.injEq]at hk
     obtain⟨rfl,rfl,rfl⟩:=hk
     refine⟨rfl,fun n hn=>by simp at hn,hg.mono ?_⟩
     rintro v' w' ⟨ι',Fz',g1,g2,g3,g4,g5⟩
     have e1:ι'=ι:=funext fun k=>g3 k (.inl rfl)
     subst e1
     exact⟨ι',Fz',H,g4,g5,fun _ _=>rfl,fun h hh=>by simp at hh,fun h _=>rfl⟩
    ·dsimp only at hcf
     subst hcf
     cases hok:ownOk os ls with
     |false=>rw[hok]at h;cases h
     |true=>
      rw[hok,cond_true]at h
      have hb:Behind w0 Fz0 ι Fz ⟨[],H,df⟩ a w:=⟨fun t=>by simp[getF,RV],hdf,m⟩
      obtain⟨gs,hgs,h⟩:=Option.bind_eq_some_iff.1 h
      have hall:∀e∈gs,e.2=AB.gone:=by
       cases hs:allSafe c2.alts with
       |true=>rw[hs,cond_true]at hgs;simp only[Option.some.injEq]at hgs;subst hgs;intro e he;simp at he
       |false=>rw[hs,cond_false]at hgs;exact(gonesOf_of (st:=⟨[],H,df⟩) _ hgs hb).1
      obtain⟨v1,ks1,nf1,hk,hn,hks,hg⟩:=callX_core (st:=⟨[],H,df⟩) (st1:=⟨[],gs++H,df⟩) (hΓ.c2 c2 hc2) hb hm2 hrv0 hok (fun hl hm=>by
       cases hs:allSafe c2.alts with
       |true=>
        rw[hs,cond_true]at hgs;simp only[Option.some.injEq]at hgs;subst hgs
        have:=ready_frz (c:=c2) (st1:=⟨[],H,df⟩) (os:=os) (ls:=ls) hb (by rw[hs];rfl) hl hm
        rw[hs]at this
        exact this
       |false=>
        rw[hs,cond_false]at hgs
        have:=ready_gone (c:=c2) (os:=os) (ls:=ls) (st:=⟨[],H,df⟩) hb hgs hl hm
        rw[hs]at this
        exact this) h
      simp only[Option.some.injEq,Prod.mk.injEq]at hk
      obtain⟨rfl,rfl,rfl⟩:=hk
      refine⟨hn,fun n hn'=>by rw[List.map_append,List.mem_append];exact .inl (hks n hn'),OpGives.callI ho hfe hm0 (hg.mono ?_)⟩
      rintro v' w' ⟨ι',Fz',hb',hv',hι⟩
      have goneAt:∀(gs:List (Nat×AB)) (h:Nat),(∀e∈gs,e.2=AB.gone)→getH gs h=AB.gone:=by
       intro gs h
       induction gs with
       |nil=>intro _;rfl
       |cons e gs ih=>
        intro hh
        obtain⟨n,bb⟩:=e
        rw[getH_cons]
        split
        ·exact hh (n,bb) (by simp)
        ·exact ih fun e he=>hh e (by simp[he])
      refine⟨ι',Fz',_,hb'.2.2,hv',hι,fun h hh=> ?_,fun h hh=> ?_⟩
      ·by_cases hk:h∈ks1.map Prod.fst
       ·rw[getH_ks _ _ _ hk,getH_ks _ _ _ hk]
       ·rw[List.map_append,List.mem_append]at hh
        have hg2:=hh.resolve_left hk
        rw[getH_notks _ _ _ hk,getH_notks _ _ _ hk,(freshL_spec nf1 ⟨[],gs++H,df⟩).2.1,getH_ks _ _ _ hg2,goneAt gs h hall]
        exact strikeLs_gone _
      ·rw[List.map_append,List.mem_append,not_or]at hh
       rw[getH_notks _ _ _ hh.1,(freshL_spec nf1 ⟨[],gs++H,df⟩).2.1,getH_notks _ _ _ hh.2]
   split at h
   ·rename_i t u hf
    have hef:=he f
    rw[hf]at hef
    simp only[RV]at hef
    obtain⟨u',hfe,hu⟩:=hef
    exact key t u u' hfe hu h
   ·rename_i c hf
    have hef:=he f
    rw[hf]at hef
    obtain⟨t,u,h,u',hfe,hu⟩:=dynK_of hef _ h
    exact key t u u' hfe hu h
   ·cases h
end
end Go.Av
namespace Go.Av
open Go Go.RowKit
section
variable {P:Program} {w0:Root} {Fz0:Nat→Prop} {ι:Nat→HI} {Fz:Nat→Prop} {H:List (Nat×AB)} {w:World}
def updO(F:Nat→AV)(d:Option Nat)(v:AV):Nat→AV:=match d with|none=>F|some d=>fun t=>if d=t then v else F t
def opndF(gl:List Gl)(F:Nat→AV):Operand→AV
 | .tmp t=>F t
 | .const v=>avOf v
 | .global g=>getG gl g
 | .func f=> .func f []
theorem opnd_F(gl:List Gl)(fr:List (Nat×AV)):opnd gl fr=opndF gl (getF fr):=by funext x;cases x<;>rfl
def stepM(E:Env)(ops:Array Oper)(df:List AV)(F:Nat→AV)(H:List (Nat×AB))(o:Oper)(t:Tr):Prop:=
 match o.guard with
 |none=>opM E o.op (opndF E.gl F) (keepHp H t.fp) df (o.dst.getD 0) (fun v ks nf=>some (v,ks,nf))=some (t.v,t.ks,t.nf)
 |some (j,want)=>∃d,(ops[j]?).bind (·.dst)=some d∧
  ((∃p,F d= .pv .bool p∧((p=want∧opM E o.op (opndF E.gl F) (keepHp H t.fp) df (o.dst.getD 0) (fun v ks nf=>some (v,ks,nf))=some (t.v,t.ks,t.nf))∨(p≠want∧t=⟨.tuple [],[],[],[]⟩)))∨
   (F d= .tuple []∧t=⟨.tuple [],[],[],[]⟩))
def StepsM(E:Env)(ops:Array Oper)(df:List AV):(Nat→AV)→List (Nat×AB)→List Oper→List Tr→Prop
 |_,_,[],[]=>True
 |F,H,o::l,t::ts=>stepM E ops df F H o t∧StepsM E ops df (updO F o.dst t.v) (t.ks++H) l ts
 |_,_,_,_=>False
def hrun:List Tr→List (Nat×AB)→List (Nat×AB)
 |[],H=>H
 |t::ts,H=>hrun ts (t.ks++H)
def runF:(Nat→AV)→List Oper→List AV→Nat→AV
 |F,o::l,v::vs=>runF (updO F o.dst v) l vs
 |F,_,_=>F
theorem getF_put(st:St)(d:Option Nat)(v:AV):getF (putF st d v).fr=updO (getF st.fr) d v:=by
 cases d with
 |none=>rfl
 |some d=>funext t;show getF ((d,v)::st.fr) t=_;rw[getF_cons];rfl
theorem getF_known{fr:List (Nat×AV)}{d:Nat}{v:AV}(h:getF fr d=v):getF ((d,v)::fr)=getF fr:=by
 funext t;rw[getF_cons];split
 ·rename_i e;rw[←e,h]
 ·rfl
theorem putF_H(st:St)(d:Option Nat)(v:AV):(putF st d v).H=st.H∧(putF st d v).df=st.df:=by cases d<;>exact⟨rfl,rfl⟩
theorem opMG_step{R:Type}{E:Env}{ops:Array Oper}{o:Oper}{st:St}{K:Tr→St→Option R}{r:R}(h:opMG E ops o st K=some r):
 ∃t st',stepM E ops st.df (getF st.fr) st.H o t∧K t st'=some r∧st'.H=t.ks++st.H∧st'.df=st.df∧getF st'.fr=updO (getF st.fr) o.dst t.v:=by
 unfold opMG at h
 have run:∀(fr:List (Nat×AV)),getF fr=getF st.fr→((fun fp=>opM E o.op (opnd E.gl fr) (keepHp st.H fp) st.df (o.dst.getD 0) fun v ks nf=>K ⟨v,ks,nf,fp⟩ (putF ⟨fr,ks++st.H,st.df⟩ o.dst v)) (fpOf st.H (opnd E.gl fr) o.op))=some r→
  ∃t:Tr,opM E o.op (opndF E.gl (getF st.fr)) (keepHp st.H t.fp) st.df (o.dst.getD 0) (fun v ks nf=>some (v,ks,nf))=some (t.v,t.ks,t.nf)∧
   ∃st',K t st'=some r∧st'.H=t.ks++st.H∧st'.df=st.df∧getF st'.fr=updO (getF st.fr) o.dst t.v:=by
  intro fr hfr h
  simp only at h
  obtain⟨v,ks,nf,h1,h2⟩:=opM_some h
  rw[opnd_F,hfr]at h1
  refine⟨⟨v,ks,nf,fpOf st.H (opnd E.gl fr) o.op⟩, ?_,_,h2,(putF_H _ _ _).1,(putF_H _ _ _).2,by rw[getF_put,hfr]⟩
  show opM E o.op (opndF E.gl (getF st.fr)) (keepHp st.H (fpOf st.H (opnd E.gl fr) o.op)) st.df (o.dst.getD 0) _=_
  rw[opnd_F,hfr];exact h1
 split at h
 ·rename_i hgd
  obtain⟨t,h1,st',h2⟩:=run st.fr rfl h
  exact⟨t,st',by unfold stepM;rw[hgd];exact h1,h2⟩
 ·rename_i j want hgd
  split at h
  ·rename_i d hdst
   have skip:∀(fr:List (Nat×AV)),getF fr=getF st.fr→K ⟨.tuple [],[],[],[]⟩ (putF ⟨fr,st.H,st.df⟩ o.dst (.tuple []))=some r→
    ∃st',K ⟨.tuple [],[],[],[]⟩ st'=some r∧st'.H=st.H∧st'.df=st.df∧getF st'.fr=updO (getF st.fr) o.dst (.tuple []):=
    fun fr hfr h=>⟨_,h,(putF_H _ _ _).1,(putF_H _ _ _).2,by rw[getF_put,hfr]⟩
   split at h
   ·rename_i p hp
    cases p with
    |true=>
     simp only[cond_true]at h
     cases want with
     |true=>
      simp only[cond_true]at h
      obtain⟨t,h1,st',h2⟩:=run _ (getF_known hp) h
      exact⟨t,st',by unfold stepM;rw[hgd];exact⟨d,hdst, .inl ⟨true,hp, .inl ⟨rfl,h1⟩⟩⟩,h2⟩
     |false=>
      simp only[cond_false]at h
      obtain⟨st',h2⟩:=skip _ (getF_known hp) h
      exact⟨_,st',by unfold stepM;rw[hgd];exact⟨d,hdst, .inl ⟨true,hp, .inr ⟨by simp,rfl⟩⟩⟩,h2⟩
    |false=>
     simp only[cond_false]at h
     cases want with
     |true=>
      simp only[cond_true]at h
      obtain⟨st',h2⟩:=skip _ (getF_known hp) h
      exact⟨_,st',by unfold stepM;rw[hgd];exact⟨d,hdst, .inl ⟨false,hp, .inr ⟨by simp,rfl⟩⟩⟩,h2⟩
     |false=>
      simp only[cond_false]at h
      obtain⟨t,h1,st',h2⟩:=run _ (getF_known hp) h
      exact⟨t,st',by unfold stepM;rw[hgd];exact⟨d,hdst, .inl ⟨false,hp, .inl ⟨rfl,h1⟩⟩⟩,h2⟩
   ·rename_i hp
    obtain⟨st',h2⟩:=skip st.fr rfl h
    exact⟨_,st',by unfold stepM;rw[hgd];exact⟨d,hdst, .inr ⟨hp,rfl⟩⟩,h2⟩
   ·cases h
  ·cases h
theorem opsM_steps{R:Type}{E:Env}{ops:Array Oper}:∀(l:List Oper) {st:St} {K:List Tr→St→Option R} {r:R},opsM E ops l st K=some r→
 ∃ts st',StepsM E ops st.df (getF st.fr) st.H l ts∧K ts st'=some r∧st'.H=hrun ts st.H∧st'.df=st.df∧getF st'.fr=runF (getF st.fr) l (ts.map Tr.v)
 |[],st,K,r,h=>⟨[],st,trivial,h,rfl,rfl,rfl⟩
 |o::l,st,K,r,h=>by
  simp only[opsM]at h
  obtain⟨t,st1,h1,h2,h3,h4,h5⟩:=opMG_step h
  obtain⟨ts,st2,g1,g2,g3,g4,g5⟩:=opsM_steps l h2
  rw[h5,h3,h4]at g1
  exact⟨t::ts,st2,⟨h1,g1⟩,g2,by rw[g3,h3];rfl,g4.trans h4,by rw[g5,h5];rfl⟩
theorem StepsM.len{E:Env}{ops:Array Oper}{df:List AV}:∀{F:Nat→AV} {H:List (Nat×AB)} {l:List Oper} {ts:List Tr},StepsM E ops df F H l ts→ts.length=l.length
 |_,_,[],[],_=>rfl
 |_,_,o::l,t::ts,h=>by simp[StepsM.len h.2]
 |_,_,[],_::_,h=>h.elim
 |_,_,_::_,[],h=>h.elim
theorem StepsM.at{E:Env}{ops:Array Oper}{df:List AV}:∀{F:Nat→AV} {H:List (Nat×AB)} {l:List Oper} {ts:List Tr} {i:Nat} {o:Oper},StepsM E ops df F H l ts→l[i]?=some o→
 ∃t,ts[i]?=some t∧stepM E ops df (runF F (l.take i) ((ts.map Tr.v).take i)) (hrun (ts.take i) H) o t
 |_,_,[],[],_,_,_,h=>by simp at h
 |F,H,o'::l,t::ts,0,o,h,ho=>by
  simp only[List.getElem?_cons_zero,Option.some.injEq]at ho
  subst ho
  exact⟨t,rfl,h.1⟩
 |F,H,o'::l,t::ts,i+1,o,h,ho=>by
  obtain⟨u,h1,h2⟩:=StepsM.at h.2 (by simpa using ho:l[i]?=some o)
  exact⟨u,by simpa using h1,h2⟩
 |_,_,[],_::_,_,_,h,_=>h.elim
 |_,_,_::_,[],_,_,h,_=>h.elim
theorem runF_not:∀{F:Nat→AV} {l:List Oper} {vs:List AV} {t:Nat},(∀(j:Nat) o,l[j]?=some o→o.dst≠some t)→runF F l vs t=F t
 |_,[],_,_,_=>rfl
 |_,_::_,[],_,_=>rfl
 |F,o::l,v::vs,t,h=>by
  show runF (updO F o.dst v) l vs t=F t
  rw[runF_not fun j o' ho=>h (j+1) o' (by simpa using ho)]
  have:=h 0 o rfl
  cases hd:o.dst with
  |none=>rfl
  |some d=>
   simp only[updO]
   rw[if_neg (fun e=>this (by rw[hd,e]))]
theorem runF_at:∀{F:Nat→AV} {l:List Oper} {vs:List AV} {t j:Nat} {o:Oper} {v:AV},l[j]?=some o→o.dst=some t→vs[j]?=some v→(∀(k:Nat) o',k≠j→l[k]?=some o'→o'.dst≠some t)→runF F l vs t=v
 |_,[],_,_,_,_,_,h,_,_,_=>by simp at h
 |_,_::_,[],_,_,_,_,_,_,h,_=>by simp at h
 |F,o::l,v::vs,t,0,o',v',h1,h2,h3,h4=>by
  simp only[List.getElem?_cons_zero,Option.some.injEq]at h1 h3
  subst h1 h3
  show runF (updO F o.dst v) l vs t=v
  rw[runF_not fun j o' ho=>h4 (j+1) o' (by omega) (by simpa using ho),h2]
  simp[updO]
 |F,o::l,v::vs,t,j+1,o',v',h1,h2,h3,h4=>
  runF_at (F:=updO F o.dst v) (by simpa using h1) h2 (by simpa using h3) fun k o'' hk ho=>h4 (k+1) o'' (by omega) (by simpa using ho)
def HLof(L:Nat→Bool):List Tr→Nat→List (Nat×AB)→List (Nat×AB)
 |[],_,H=>H
 |t::r,i,H=>HLof L r (i+1) (bif L i then t.ks++H else H)
theorem HL_congr{L L':Nat→Bool}:∀(ts:List Tr) (i:Nat) (H H':List (Nat×AB)) (h:Nat),getH H h=getH H' h→(∀(j:Nat) t,ts[j]?=some t→h∈keysT t→L (i+j)=L' (i+j))→
 getH (HLof L ts i H) h=getH (HLof L' ts i H') h
 |[],_,_,_,_,e,_=>e
 |t::r,i,H,H',h,e,hk=>by
  simp only[HLof]
  refine HL_congr r (i+1) _ _ h ?_ fun j t' hj hh=>by
   have:=hk (j+1) t' (by simpa using hj) hh
   rwa[show i+(j+1)=i+1+j by omega]at this
  by_cases hh:h∈keysT t
  ·have:=hk 0 t rfl hh
   rw[Nat.add_zero]at this
   rw[this]
   cases L' i
   ·simpa using e
   ·simp only[cond_true]
    rw[getH_ks _ _ _ hh,getH_ks _ _ _ hh]
  ·have:∀(c:Bool) (X:List (Nat×AB)),getH (bif c then t.ks++X else X) h=getH X h:=by
    intro c X
    cases c
    ·rfl
    ·exact getH_notks _ _ _ hh
   rw[this,this,e]
theorem HL_none{L:Nat→Bool}:∀(ts:List Tr) (i:Nat) (H:List (Nat×AB)),(∀j,i≤j→L j=false)→HLof L ts i H=H
 |[],_,_,_=>rfl
 |t::r,i,H,h=>by simp only[HLof];rw[h i (Nat.le_refl _)];exact HL_none r (i+1) H fun j hj=>h j (by omega)
theorem HL_run:∀(ts:List Tr) (i k:Nat) (H:List (Nat×AB)),HLof (fun j=>decide (j<i+k)) ts i H=hrun (ts.take k) H
 |[],_,k,_=>by simp[HLof,hrun]
 |t::r,i,0,H=>by
  rw[HL_none _ _ _ (fun j hj=>by simp;omega)]
  simp[hrun]
 |t::r,i,k+1,H=>by
  simp only[HLof,List.take_succ_cons,hrun]
  have e1:decide (i<i+(k+1))=true:=by simp
  rw[e1,cond_true]
  have:=HL_run r (i+1) k (t.ks++H)
  rw[←this]
  congr 1
  funext j
  congr 1
  simp only[eq_iff_iff];omega
theorem hrun_snoc:∀(ts:List Tr) (t:Tr) (H:List (Nat×AB)),hrun (ts++[t]) H=t.ks++hrun ts H
 |[],_,_=>rfl
 |u::r,t,H=>by simp only[List.cons_append,hrun];exact hrun_snoc r t (u.ks++H)
theorem getH_mem:∀(H:List (Nat×AB)) (h:Nat),getH H h= .gone∨(h,getH H h)∈H
 |[],h=> .inl rfl
 |(n,b)::r,h=>by
  rw[getH_cons]
  by_cases e:n=h
  ·subst e;rw[if_pos rfl];right;simp
  ·rw[if_neg e]
   rcases getH_mem r h with h'|h'
   ·exact .inl h'
   ·exact .inr (List.mem_cons_of_mem _ h')
theorem HL_mem{L:Nat→Bool}:∀(ts:List Tr) (i:Nat) (H:List (Nat×AB)) (e:Nat×AB),e∈HLof L ts i H→e∈H∨∃(j:Nat) (t:Tr),ts[j]?=some t∧L (i+j)=true∧e∈t.ks
 |[],_,_,_,h=> .inl h
 |t::r,i,H,e,h=>by
  simp only[HLof]at h
  rcases HL_mem r (i+1) _ e h with h|⟨j,u,h1,h2,h3⟩
  ·cases hL:L i with
   |false=>rw[hL]at h;exact .inl h
   |true=>
    rw[hL,cond_true]at h
    rcases List.mem_append.1 h with h|h
    ·exact .inr ⟨0,t,rfl,by simpa using hL,h⟩
    ·exact .inl h
  ·exact .inr ⟨j+1,u,by simpa using h1,by rwa[show i+(j+1)=i+1+j by omega],h3⟩
theorem dstIs_iff{o:Oper}{t:Nat}:dstIs o t=true↔o.dst=some t:=by
 unfold dstIs
 cases o.dst with
 |none=>simp
 |some d=>exact⟨fun h=>by rw[Nat.eq_of_beq_eq_true h],fun h=>by simp at h;rw[h];exact Nat.beq_refl t⟩
theorem maskOf_spec(acc:List Nat):∀(es:List Edge) (i:Nat),(maskOf acc es).testBit i=true→∃e∈es,Region.binds .any e=true∧(e.on=i∨(acc.getD e.on 0).testBit i=true)
 |[],i,h=>by simp[maskOf]at h
 |e::r,i,h=>by
  simp only[maskOf]at h
  cases hb:Region.binds .any e with
  |false=>
   rw[hb,cond_false]at h
   obtain⟨e',h1,h2⟩:=maskOf_spec acc r i h
   exact⟨e',List.mem_cons_of_mem _ h1,h2⟩
  |true=>
   rw[hb,cond_true]at h
   have h:(((2^e.on|||acc.getD e.on 0)|||maskOf acc r):Nat).testBit i=true:=h
   rw[Nat.testBit_or,Nat.testBit_or,Bool.or_eq_true,Bool.or_eq_true]at h
   rcases h with(h|h)|h
   ·rw[Nat.testBit_two_pow]at h
    exact⟨e,by simp,hb, .inl (by simpa using h)⟩
   ·exact⟨e,by simp,hb, .inr h⟩
   ·obtain⟨e',h1,h2⟩:=maskOf_spec acc r i h
    exact⟨e',List.mem_cons_of_mem _ h1,h2⟩
theorem ancs_prefix:∀(l:List Oper) (acc:List Nat) (j:Nat),j<acc.length→(ancs l acc)[j]?=acc[j]?
 |[],_,_,_=>rfl
 |o::r,acc,j,h=>by
  simp only[ancs]
  rw[ancs_prefix r _ j (by simp;omega),List.getElem?_append_left h]
theorem ancs_at:∀(l:List Oper) (acc:List Nat) (j:Nat) (o:Oper),l[j]?=some o→∃pre:List Nat,pre.length=acc.length+j∧(∀k,k<pre.length→(ancs l acc)[k]?=pre[k]?)∧(ancs l acc)[acc.length+j]?=some (maskOf pre o.after.toList)
 |[],_,_,_,h=>by simp at h
 |o'::r,acc,0,o,h=>by
  simp only[List.getElem?_cons_zero,Option.some.injEq]at h
  subst h
  refine⟨acc,by simp,fun k hk=> ?_, ?_⟩
  ·exact ancs_prefix _ _ _ hk
  ·simp only[ancs,Nat.add_zero]
   rw[ancs_prefix r _ _ (by simp)]
   simp
 |o'::r,acc,j+1,o,h=>by
  obtain⟨pre,h1,h2,h3⟩:=ancs_at r (acc++[maskOf acc o'.after.toList]) j o (by simpa using h)
  simp only[List.length_append,List.length_singleton]at h1 h3
  exact⟨pre,by omega,fun k hk=>h2 k hk,by simp only[ancs];rw[←h3];congr 1;omega⟩
theorem anc_closed{hd:List Oper}{L:Nat→Bool}(hcl:∀(j:Nat) oj,hd[j]?=some oj→L j=true→∀e∈oj.after,Region.binds .any e=true→L e.on=true)
 (hback:∀(j:Nat) oj,hd[j]?=some oj→∀e∈oj.after,Region.binds .any e=true→e.on<j):
 ∀(j:Nat) oj i mj,hd[j]?=some oj→(∀e∈oj.after,Region.binds .any e=true→L e.on=true)→(ancs hd [])[j]?=some mj→isAnc mj i=true→L i=true:=by
 intro j
 induction j using Nat.strongRecOn with
 |_ j ih=>
  intro oj i mj hj hrd hm ha
  obtain⟨pre,h1,h2,h3⟩:=ancs_at hd [] j oj hj
  simp only[List.length_nil,Nat.zero_add]at h1 h3
  rw[h3]at hm
  simp only[Option.some.injEq]at hm
  subst hm
  obtain⟨e,he,hb,h4⟩:=maskOf_spec pre _ i ha
  have he':e∈oj.after:=by simpa using he
  have hL:=hrd e he' hb
  rcases h4 with rfl|h4
  ·exact hL
  ·have hlt:=hback j oj hj e he' hb
   have hlen:j<hd.length:=(List.getElem?_eq_some_iff.1 hj).1
   have hoe:hd[e.on]?=some hd[e.on]:=List.getElem?_eq_getElem (by omega)
   rw[List.getD_eq_getElem?_getD,←h2 e.on (by omega)]at h4
   cases hme:(ancs hd [])[e.on]? with
   |none=>rw[hme]at h4;simp at h4
   |some me=>
    rw[hme]at h4
    exact ih e.on hlt _ i me hoe (hcl e.on _ hoe hL) hme h4
theorem colM_at{ops:Array Oper}{oj:Oper}{tj:Tr}{mj:Nat}:∀{os:List Oper} {ts:List Tr} {i k:Nat} {oi:Oper} {ti:Tr},colM ops oj tj mj i os ts=true→os[k]?=some oi→ts[k]?=some ti→pairM ops oi oj ti tj (i+k) mj=true
 |[],_,_,_,_,_,_,h,_=>by simp at h
 |_::_,[],_,_,_,_,_,_,h=>by simp at h
 |o::os,t::ts,i,0,oi,ti,h,ho,ht=>by
  simp only[List.getElem?_cons_zero,Option.some.injEq]at ho ht
  subst ho ht
  simp only[colM,Bool.and_eq_true]at h
  exact h.1
 |o::os,t::ts,i,k+1,oi,ti,h,ho,ht=>by
  simp only[colM,Bool.and_eq_true]at h
  have:=colM_at h.2 (by simpa using ho:os[k]?=some oi) (by simpa using ht)
  rwa[show i+1+k=i+(k+1)by omega]at this
theorem rowsM_at{ops:Array Oper}{hd:List Oper}{tr:List Tr}:∀{os:List Oper} {ts:List Tr} {ms:List Nat} {j k:Nat} {o:Oper} {t:Tr} {m:Nat},rowsM ops hd tr j os ts ms=true→os[k]?=some o→ts[k]?=some t→ms[k]?=some m→
 colM ops o t m 0 (hd.take (j+k)) (tr.take (j+k))=true∧(∀n∈t.nf,n∈keysT t)∧∀e∈o.after,Region.binds .any e=true→e.on<j+k
 |[],_,_,_,_,_,_,_,_,h,_,_=>by simp at h
 |_::_,[],_,_,_,_,_,_,_,_,h,_=>by simp at h
 |_::_,_::_,[],_,_,_,_,_,_,_,_,h=>by simp at h
 |o::os,t::ts,m::ms,j,0,o',t',m',h,ho,ht,hm=>by
  simp only[List.getElem?_cons_zero,Option.some.injEq]at ho ht hm
  subst ho ht hm
  simp only[rowsM,Bool.and_eq_true]at h
  refine⟨h.1.1.1,fun n hn=>memN_iff.1 (List.all_eq_true.1 h.1.1.2 n hn),fun e he hb=> ?_⟩
  have:=List.all_eq_true.1 h.1.2 e (by simpa using he)
  rw[hb]at this
  simp only[Bool.not_true,Bool.false_or]at this
  exact Nat.le_of_ble_eq_true this
 |o::os,t::ts,m::ms,j,k+1,o',t',m',h,ho,ht,hm=>by
  simp only[rowsM,Bool.and_eq_true]at h
  have:=rowsM_at h.2 (by simpa using ho:os[k]?=some o') (by simpa using ht) (by simpa using hm)
  rwa[show j+1+k=j+(k+1)by omega]at this
theorem meets_iff:∀{a b:List Nat},meets a b=false↔∀n∈a,n∉b
 |[],b=>by simp[meets]
 |n::a,b=>by
  simp only[meets,Bool.or_eq_false_iff,meets_iff (a:=a),List.forall_mem_cons]
  refine and_congr_left fun _=> ?_
  rw[←memN_iff];simp
theorem trNo_spec{nf:List Nat}{t:Tr}(h:trNo nf t=true):∀n∈nf,t.v.ment n=false∧∀e∈t.ks,e.2.ment n=false:=by
 intro n hn
 have:=List.all_eq_true.1 h n hn
 simp only[Bool.and_eq_true,Bool.not_eq_true',List.all_eq_true]at this
 exact this
theorem looksB_spec{ops:Array Oper}{o:Oper}{d:Nat}(h:looksB ops o (some d)=false):d∉o.looksAt ops:=by
 intro hm
 have h2:((o.looksAt ops).any fun s=>Nat.beq s d)=true:=List.any_eq_true.2 ⟨d,hm,Nat.beq_refl d⟩
 simp only[looksB]at h
 rw[h]at h2;cases h2
structure Pair(ops:Array Oper)(oi oj:Oper)(ti tj:Tr)(anc:Prop):Prop where
 dst:∀d,oi.dst=some d→oj.dst≠some d
 no:∀n∈tj.nf,ti.v.ment n=false∧∀e∈ti.ks,e.2.ment n=false
 apart:anc∨((∀d,oi.dst=some d→d∉oj.looksAt ops)∧(∀d,oj.dst=some d→d∉oi.looksAt ops)∧(∀n∈keysT ti,n∉tj.fp∧n∉keysT tj)∧(∀n∈keysT tj,n∉ti.fp)∧
  ∀n∈ti.nf,tj.v.ment n=false∧∀e∈tj.ks,e.2.ment n=false)
theorem pairM_spec{ops:Array Oper}{oi oj:Oper}{ti tj:Tr}{i mj:Nat}(h:pairM ops oi oj ti tj i mj=true):Pair ops oi oj ti tj (isAnc mj i=true):=by
 unfold pairM at h
 simp only[Bool.and_eq_true,Bool.or_eq_true,Bool.not_eq_true']at h
 refine⟨fun d hd hj=> ?_,trNo_spec h.1.2, ?_⟩
 ·have:=h.1.1
  rw[hd]at this
  simp only[Bool.not_eq_true']at this
  have h2:=dstIs_iff.2 hj
  rw[this]at h2;cases h2
 ·rcases h.2 with h|⟨⟨⟨⟨h1,h2⟩,h3⟩,h4⟩,h5⟩
  ·exact .inl h
  ·refine .inr ⟨fun d hd=>looksB_spec (by rw[←hd];exact h1),fun d hd=>looksB_spec (by rw[←hd];exact h2),fun n hn=> ?_,fun n hn=>meets_iff.1 h4 n hn,trNo_spec h5⟩
   have:=meets_iff.1 h3 n hn
   rw[List.mem_append,not_or]at this
   exact this
structure HInv(w0:Root)(Fz0:Nat→Prop)(ι:Nat→HI)(H0:List (Nat×AB))(df:List AV)(nt:Nat)(F:Nat→AV)(l:List Oper)(ts:List Tr)(listed:Array Bool)(a:Act)(w:World)(Fz:Nat→Prop):Prop where
 tsize:a.tmps.size=nt
 df:RD ι Fz w df a.defers
 mem:Mem w0 Fz0 ι Fz (HLof (fun j=>listed.getD j false) ts 0 H0) w
 val:∀(j:Nat) o t x,l[j]?=some o→o.dst=some t→ts[j]?=some x→listed.getD j false=true→RV ι Fz w x.v (a.tmps.getD t undef)
 old:∀t,(∀(j:Nat) o,l[j]?=some o→o.dst=some t→listed.getD j false=false)→RV ι Fz w (F t) (a.tmps.getD t undef)
def unl(n:Nat)(listed:Array Bool):Nat:=(List.range n).countP fun i=> !listed.getD i false
theorem unl_set{listed:Array Bool}{i:Nat}:∀{n:Nat},i<n→i<listed.size→listed.getD i false=false→unl n listed=unl n (listed.setIfInBounds i true)+1:=by
 intro n hi hs hf
 have same:∀m,m≤i→unl m (listed.setIfInBounds i true)=unl m listed:=fun m hm=>by
  unfold unl
  refine List.countP_congr fun k hk=> ?_
  have:=List.mem_range.1 hk
  rw[getD_set_ne false (by omega)]
 have hset:(listed.setIfInBounds i true).getD i false=true:=by simp[hs]
 induction n with
 |zero=>omega
 |succ n ih=>
  unfold unl at *
  rw[List.range_succ,List.countP_append,List.countP_append]
  rcases Nat.lt_or_ge i n with h|h
  ·rw[ih h]
   have e:(listed.setIfInBounds i true).getD n false=listed.getD n false:=getD_set_ne false (by omega)
   simp only[List.countP_singleton,e]
   omega
  ·have e:n=i:=by omega
   subst e
   rw[same n (Nat.le_refl _)]
   simp only[List.countP_singleton]
   rw[hset,hf]
   rfl
theorem unl_pos{n:Nat}{listed:Array Bool}(h:unl n listed≠0):∃i<n,listed.getD i false=false:=by
 unfold unl at h
 obtain⟨i,hi,hp⟩:=List.countP_pos_iff.1 (Nat.pos_of_ne_zero h)
 exact⟨i,List.mem_range.1 hi,by simpa using hp⟩
theorem unl_zero{n:Nat}{listed:Array Bool}(h:unl n listed=0):∀i<n,listed.getD i false=true:=by
 intro i hi
 unfold unl at h
 have:=List.countP_eq_zero.1 h i (List.mem_range.2 hi)
 simpa using this
theorem tmps_put_self{a:Act}{d:Nat}{v:Value}(h:d<a.tmps.size):(a.put (some d) v).tmps.getD d undef=v:=by
 simp only[Act.put]
 rw[Array.getD_eq_getD_getElem?,Array.getElem?_setIfInBounds_self]
 simp[h]
theorem tmps_put_ne{a:Act}{d:Option Nat}{t:Nat}{v:Value}(h:d≠some t):(a.put d v).tmps.getD t undef=a.tmps.getD t undef:=by
 cases d with
 |none=>rfl
 |some d=>
  simp only[Act.put]
  rw[Array.getD_eq_getD_getElem?,Array.getElem?_setIfInBounds_ne (fun e=>h (by rw[e])),←Array.getD_eq_getD_getElem?]
theorem getF_frOf(F:Nat→AV):∀(l:List Nat) (t:Nat),(t∈l→getF (l.map fun t=>(t,F t)) t=F t)∧(t∉l→getF (l.map fun t=>(t,F t)) t= .dead)
 |[],t=>⟨fun h=>by simp at h,fun _=>rfl⟩
 |s::l,t=>by
  have ih:=getF_frOf F l t
  constructor
  ·intro h
   show getF ((s,F s)::_) t=_
   rw[getF_cons]
   by_cases e:s=t
   ·rw[if_pos e,e]
   ·rw[if_neg e]
    refine ih.1 ?_
    rcases List.mem_cons.1 h with h|h
    ·exact absurd h.symm e
    ·exact h
  ·intro h
   show getF ((s,F s)::_) t=_
   rw[getF_cons,if_neg (fun e=>h (by simp[e]))]
   exact ih.2 (fun h'=>h (by simp[h']))
theorem strikeLs_none{nf:List Nat}{b:AB}(h:∀n∈nf,b.ment n=false):AB.strikeLs nf b=b:=by
 cases b with
 |gone=>exact strikeLs_gone nf
 |arr e κ xs=>exact strikeLs_arr nf e κ xs
 |box cs=>
  rw[strikeLs_box]
  congr 1
  have key:∀(cs:List AV),(∀n∈nf,mentL n cs=false)→cs.map (strikeLs nf)=cs:=by
   intro cs
   induction cs with
   |nil=>intro _;rfl
   |cons c r ih=>
    intro h
    have h1:∀n∈nf,c.ment n=false:=fun n hn=>by have:=h n hn;simp only[mentL,Bool.or_eq_false_iff]at this;exact this.1
    have h2:∀n∈nf,mentL n r=false:=fun n hn=>by have:=h n hn;simp only[mentL,Bool.or_eq_false_iff]at this;exact this.2
    rw[List.map_cons,ih h2]
    congr 1
    have:∀(l:List Nat),(∀n∈l,c.ment n=false)→strikeLs l c=c:=by
     intro l
     induction l with
     |nil=>intro _;rfl
     |cons n l ih=>
      intro h
      simp only[strikeLs]
      rw[show c.strike n=c by simp[AV.strike,h n (by simp)]]
      exact ih fun k hk=>h k (by simp[hk])
    exact this nf h1
  exact key cs fun n hn=>by simpa[AB.ment]using h n hn
structure HeadOk(E:Env)(ops:Array Oper)(df:List AV)(F0:Nat→AV)(H0:List (Nat×AB))(l:List Oper)(ts:List Tr):Prop where
 steps:StepsM E ops df F0 H0 l ts
 pair:∀(i j:Nat) oi oj ti tj mj,i<j→l[i]?=some oi→l[j]?=some oj→ts[i]?=some ti→ts[j]?=some tj→(ancs l [])[j]?=some mj→Pair ops oi oj ti tj (isAnc mj i=true)
 nfk:∀(j:Nat) t,ts[j]?=some t→∀n∈t.nf,n∈keysT t
 back:∀(j:Nat) oj,l[j]?=some oj→∀e∈oj.after,Region.binds .any e=true→e.on<j
 no:∀(j:Nat) t,ts[j]?=some t→∀n∈t.nf,(∀s,(F0 s).ment n=false)∧∀e∈H0,e.2.ment n=false
theorem head_step{E:Env}{ops:Array Oper}{nt:Nat}{df:List AV}{F:Nat→AV}{H0:List (Nat×AB)}{l:List Oper}{ts:List Tr}{listed:Array Bool}{a:Act}(hΓ:EnvOk E w0.gl)
 (ho:HeadOk E ops df F H0 l ts) (hd:dstOk l nt) {i:Nat} {o:Oper} (hi:l[i]?=some o) (hun:listed.getD i false=false)
 (hrd:∀e∈o.after,Region.binds .any e=true→listed.getD e.on false=true) (hcl:∀(j:Nat) oj,l[j]?=some oj→listed.getD j false=true→∀e∈oj.after,Region.binds .any e=true→listed.getD e.on false=true)
 (hsz:i<listed.size) (inv:HInv w0 Fz0 ι H0 df nt F l ts listed a w Fz) (Kc:Act→World→Prop) (Q:Exit→Act→World→Prop)
 (hK:∀a' w' ι' Fz',HInv w0 Fz0 ι' H0 df nt F l ts (listed.setIfInBounds i true) a' w' Fz'→Kc a' w'):
 if Region.wanted o (yielded ops a.tmps)then o.wp E.P a w Kc Q else Kc (a.put o.dst undef) w:=by
 obtain⟨t,ht,hstep⟩:=ho.steps.at hi
 have tsOf:∀(j:Nat) oj,l[j]?=some oj→∃tj,ts[j]?=some tj:=fun j oj hj=>by
  obtain⟨tj,h,_⟩:=ho.steps.at hj;exact⟨tj,h⟩
 have lOf:∀(j:Nat) tj,ts[j]?=some tj→∃oj,l[j]?=some oj:=fun j tj hj=>by
  have:=(List.getElem?_eq_some_iff.1 hj).1
  rw[ho.steps.len]at this
  exact⟨_,List.getElem?_eq_getElem this⟩
 have mOf:∀(j:Nat) oj,l[j]?=some oj→∃mj,(ancs l [])[j]?=some mj:=fun j oj hj=>by
  obtain⟨pre,_,_,h⟩:=ancs_at l [] j oj hj
  exact⟨_,by simpa using h⟩
 have hcl':∀(j:Nat) oj,l[j]?=some oj→(fun k=>listed.getD k false) j=true→∀e∈oj.after,Region.binds .any e=true→(fun k=>listed.getD k false) e.on=true:=hcl
 have early:∀(j:Nat) oj tj,j<i→l[j]?=some oj→ts[j]?=some tj→Pair ops oj o tj t (listed.getD j false=true):=by
  intro j oj tj hlt hj htj
  obtain⟨mi,hmi⟩:=mOf i o hi
  have hp:=ho.pair j i oj o tj t mi hlt hj hi htj ht hmi
  refine⟨hp.dst,hp.no, ?_⟩
  rcases hp.apart with h|h
  ·exact .inl (anc_closed hcl' ho.back i o j mi hi hrd hmi h)
  ·exact .inr h
 have late:∀(j:Nat) oj tj,i<j→l[j]?=some oj→ts[j]?=some tj→Pair ops o oj t tj (listed.getD j false=false):=by
  intro j oj tj hlt hj htj
  obtain⟨mj,hmj⟩:=mOf j oj hj
  have hp:=ho.pair i j o oj t tj mj hlt hi hj ht htj hmj
  refine⟨hp.dst,hp.no, ?_⟩
  rcases hp.apart with h|h
  ·left
   cases hl:listed.getD j false with
   |false=>rfl
   |true=>
    have:=anc_closed hcl' ho.back j oj i mj hj (hcl j oj hj hl) hmj h
    rw[hun]at this;cases this
  ·exact .inr h
 have hdist:∀(j k:Nat) oj ok d,l[j]?=some oj→l[k]?=some ok→j≠k→oj.dst=some d→ok.dst≠some d:=by
  intro j k oj ok d hj hk hjk hdj
  obtain⟨tj,htj⟩:=tsOf j oj hj
  obtain⟨tk,htk⟩:=tsOf k ok hk
  rcases Nat.lt_or_ge j k with h|h
  ·obtain⟨m,hm⟩:=mOf k ok hk
   exact(ho.pair j k oj ok tj tk m h hj hk htj htk hm).dst d hdj
  ·obtain⟨m,hm⟩:=mOf j oj hj
   intro hdk
   exact(ho.pair k j ok oj tk tj m (by omega) hk hj htk htj hm).dst d hdk hdj
 have takeAt:∀(k:Nat) (o':Oper),(l.take i)[k]?=some o'→k<i∧l[k]?=some o':=by
  intro k o' h
  rw[List.getElem?_take]at h
  split at h
  ·exact⟨by assumption,h⟩
  ·cases h
 have look:∀s∈o.looksAt ops,RV ι Fz w (runF F (l.take i) ((ts.map Tr.v).take i) s) (a.tmps.getD s undef):=by
  intro s hs
  by_cases hw:∃(j:Nat) (oj:Oper),l[j]?=some oj∧oj.dst=some s
  ·obtain⟨j,oj,hj,hdj⟩:=hw
   obtain⟨tj,htj⟩:=tsOf j oj hj
   rcases Nat.lt_trichotomy j i with hji|hji|hji
   ·have hlj:listed.getD j false=true:=by
     rcases(early j oj tj hji hj htj).apart with h|h
     ·exact h
     ·exact absurd hs (h.1 s hdj)
    have e1:runF F (l.take i) ((ts.map Tr.v).take i) s=tj.v:=runF_at (j:=j) (o:=oj) (by rw[List.getElem?_take,if_pos hji];exact hj) hdj
     (by rw[List.getElem?_take,if_pos hji,List.getElem?_map,htj];rfl)
     (fun k o' hk ho'=>hdist j k oj o' s hj (takeAt k o' ho').2 (Ne.symm hk) hdj)
    rw[e1]
    exact inv.val j oj s tj hj hdj htj hlj
   ·subst hji
    have e1:runF F (l.take j) ((ts.map Tr.v).take j) s=F s:=runF_not fun k o' ho'=>by
     obtain⟨h1,h2⟩:=takeAt k o' ho'
     exact hdist j k oj o' s hj h2 (by omega) hdj
    rw[e1]
    refine inv.old s fun k ok hk hdk=> ?_
    by_cases e:j=k
    ·rw[←e];exact hun
    ·exact absurd hdk (hdist j k oj ok s hj hk e hdj)
   ·have e1:runF F (l.take i) ((ts.map Tr.v).take i) s=F s:=runF_not fun k o' ho'=>by
     obtain⟨h1,h2⟩:=takeAt k o' ho'
     exact hdist j k oj o' s hj h2 (by omega) hdj
    rw[e1]
    refine inv.old s fun k ok hk hdk=> ?_
    by_cases e:j=k
    ·subst e
     have:ok=oj:=Option.some.inj (hk.symm.trans hj)
     subst this
     rcases(late j ok tj hji hj htj).apart with h|h
     ·exact h
     ·exact absurd hs (h.2.1 s hdj)
    ·exact absurd hdk (hdist j k oj ok s hj hk e hdj)
  ·have e1:runF F (l.take i) ((ts.map Tr.v).take i) s=F s:=runF_not fun k o' ho' hd'=>hw ⟨k,o',(takeAt k o' ho').2,hd'⟩
   rw[e1]
   exact inv.old s fun k ok hk hdk=>absurd ⟨k,ok,hk,hdk⟩ hw
 have heap:keepHp (HLof (fun j=>listed.getD j false) ts 0 H0) t.fp=keepHp (hrun (ts.take i) H0) t.fp:=by
  refine List.map_congr_left fun h hh=> ?_
  rw[←HL_run ts 0 i H0]
  refine congrArg _ (HL_congr ts 0 H0 H0 h rfl fun j tj hj hk=> ?_)
  obtain⟨oj,hoj⟩:=lOf j tj hj
  simp only[Nat.zero_add]
  rcases Nat.lt_trichotomy j i with hji|hji|hji
  ·rw[decide_eq_true hji]
   rcases(early j oj tj hji hoj hj).apart with q|q
   ·exact q
   ·exact absurd hh (q.2.2.1 h hk).1
  ·subst hji;rw[hun];simp
  ·rw[decide_eq_false (by omega)]
   rcases(late j oj tj hji hoj hj).apart with q|q
   ·exact q
   ·exact absurd hh (q.2.2.2.1 h hk)
 have valno:∀(j:Nat) tj,ts[j]?=some tj→j≠i→listed.getD j false=true→∀n∈t.nf,tj.v.ment n=false∧∀e∈tj.ks,e.2.ment n=false:=by
  intro j tj hj hne hl n hn
  obtain⟨oj,hoj⟩:=lOf j tj hj
  rcases Nat.lt_or_ge j i with hji|hji
  ·exact(early j oj tj hji hoj hj).no n hn
  ·rcases(late j oj tj (by omega) hoj hj).apart with q|q
   ·rw[hl]at q;cases q
   ·exact q.2.2.2.2 n hn
 have memno:∀n∈t.nf,∀h,(getH (HLof (fun j=>listed.getD j false) ts 0 H0) h).ment n=false:=by
  intro n hn h
  rcases getH_mem (HLof (fun j=>listed.getD j false) ts 0 H0) h with e|e
  ·rw[e];rfl
  ·rcases HL_mem ts 0 H0 _ e with q|⟨j,tj,h1,h2,h3⟩
   ·exact(ho.no i t ht n hn).2 _ q
   ·simp only[Nat.zero_add]at h2
    have hne:j≠i:=fun e=>by rw[e,hun]at h2;cases h2
    exact(valno j tj h1 hne h2 n hn).2 _ h3
 have keep:∀h,h∉keysT t→getH (HLof (fun j=>(listed.setIfInBounds i true).getD j false) ts 0 H0) h=getH (HLof (fun j=>listed.getD j false) ts 0 H0) h:=by
  intro h hh
  refine HL_congr ts 0 H0 H0 h rfl fun j tj hj hk=> ?_
  simp only[Nat.zero_add]
  refine getD_set_ne false fun e=> ?_
  subst e
  have:tj=t:=Option.some.inj (hj.symm.trans ht)
  rw[this]at hk
  exact hh hk
 have turn:∀h,h∈keysT t→getH (HLof (fun j=>(listed.setIfInBounds i true).getD j false) ts 0 H0) h=getH t.ks h:=by
  intro h hh
  have e1:getH (HLof (fun j=>(listed.setIfInBounds i true).getD j false) ts 0 H0) h=getH (HLof (fun j=>decide (j<0+(i+1))) ts 0 H0) h:=by
   refine HL_congr ts 0 H0 H0 h rfl fun j tj hj hk=> ?_
   obtain⟨oj,hoj⟩:=lOf j tj hj
   simp only[Nat.zero_add]
   rcases Nat.lt_trichotomy j i with hji|hji|hji
   ·rw[getD_set_ne false (by omega),decide_eq_true (by omega)]
    rcases(early j oj tj hji hoj hj).apart with q|q
    ·exact q
    ·exact absurd hh (q.2.2.1 h hk).2
   ·subst hji
    simp[hsz]
   ·rw[getD_set_ne false (by omega),decide_eq_false (by omega)]
    rcases(late j oj tj hji hoj hj).apart with q|q
    ·exact q
    ·exact absurd hk (q.2.2.1 h hh).2
  have e2:ts.take (i+1)=ts.take i++[t]:=by rw[List.take_add_one,ht];rfl
  rw[e1,HL_run ts 0 (i+1) H0,e2,hrun_snoc]
  exact getH_ks _ _ _ hh
 have after:∀(v':Value) (w':World) (ι':Nat→HI) (Fz':Nat→Prop),(∀b,Fz b→w'.heap[b]?=w.heap[b]?)→(∀b,Fz b→Fz' b)→(∀n,n∉t.nf→ι' n=ι n)→(∀n∈t.nf,okNew df n=true)→
  Mem w0 Fz0 ι' Fz' (HLof (fun j=>(listed.setIfInBounds i true).getD j false) ts 0 H0) w'→RV ι' Fz' w' t.v v'→
  HInv w0 Fz0 ι' H0 df nt F l ts (listed.setIfInBounds i true) (a.put o.dst v') w' Fz':=by
  intro v' w' ι' Fz' hw hf hι hnew m hr
  have mono:∀{x:AV} {y:Value},(∀n∈t.nf,x.ment n=false)→RV ι Fz w x y→RV ι' Fz' w' x y:=fun hm h=>
   RV_mono hw hf _ _ (fun k hk=>hι k fun hin=>by rw[hm k hin]at hk;cases hk) h
  refine⟨by rw[size_put];exact inv.tsize, ?_,m,fun j oj s u hj hdj hu hl=> ?_,fun s hs=> ?_⟩
  ·have:=RD_mono hw hf df a.defers (fun k hk=>hι k fun hin=>by
    have:=(okNew_df (hnew k hin)).1
    simp[okDf,hk]at this) inv.df
   cases o.dst<;>exact this
  ·by_cases e:i=j
   ·subst e
    have e1:oj=o:=Option.some.inj (hj.symm.trans hi)
    subst e1
    have e2:u=t:=Option.some.inj (hu.symm.trans ht)
    subst e2
    rw[hdj,tmps_put_self (by rw[inv.tsize];exact hd oj (List.mem_of_getElem? hj) s hdj)]
    exact hr
   ·rw[getD_set_ne false e]at hl
    rw[tmps_put_ne (hdist j i oj o s hj hi (Ne.symm e) hdj)]
    exact mono (fun n hn=>(valno j u hu (Ne.symm e) hl n hn).1) (inv.val j oj s u hj hdj hu hl)
  ·have hne:o.dst≠some s:=fun hdo=>by
    have:=hs i o hi hdo
    simp[hsz]at this
   rw[tmps_put_ne hne]
   refine mono (fun n hn=>(ho.no i t ht n hn).1 s) (inv.old s fun j oj hj hdj=> ?_)
   have h1:=hs j oj hj hdj
   by_cases e:i=j
   ·subst e;exact hun
   ·rwa[getD_set_ne false e]at h1
 have hfr:∀s,RV ι Fz w (getF ((o.looksAt ops).map fun s=>(s,runF F (l.take i) ((ts.map Tr.v).take i) s)) s) (a.tmps.getD s undef):=by
  intro s
  by_cases hs:s∈o.looksAt ops
  ·rw[(getF_frOf _ _ s).1 hs];exact look s hs
  ·rw[(getF_frOf _ _ s).2 hs];simp[RV]
 have run:opM E o.op (opndF E.gl (runF F (l.take i) ((ts.map Tr.v).take i))) (keepHp (hrun (ts.take i) H0) t.fp) df (o.dst.getD 0) (fun v ks nf=>some (v,ks,nf))=some (t.v,t.ks,t.nf)→Region.wanted o (yielded ops a.tmps)=true→
  if Region.wanted o (yielded ops a.tmps)then o.wp E.P a w Kc Q else Kc (a.put o.dst undef) w:=by
  intro h hwant
  rw[if_pos hwant]
  have hc:opM E o.op (opnd E.gl ((o.looksAt ops).map fun s=>(s,runF F (l.take i) ((ts.map Tr.v).take i) s))) (keepHp (HLof (fun j=>listed.getD j false) ts 0 H0) t.fp) df (o.dst.getD 0) (fun v ks nf=>some (v,ks,nf))=some (t.v,t.ks,t.nf):=by
   rw[←h,heap,opnd_F]
   refine opM_congr E _ _ _ _ _ fun x hx=> ?_
   cases x with
   |tmp s=>
    refine(getF_frOf _ _ s).1 ?_
    unfold Oper.looksAt
    refine List.mem_append_left _ (List.mem_filterMap.2 ⟨.tmp s,by simpa using hx,rfl⟩)
   |_=>rfl
  obtain⟨hnew,hnk,hg⟩:=opM_of (w0:=Root.sub w0.gl w ι (HLof (fun j=>listed.getD j false) ts 0 H0) t.fp) hΓ (inv.mem.sub t.fp) (opnd_of (gl:=E.gl) (by rw[hΓ.gl];exact inv.mem.gok) hfr) inv.df hc
  refine hg.wp ?_
  rintro v' w' ⟨ι',Fz',Hl,ml,hv,hι,g1,g2⟩
  have hw:∀b,Fz b→w'.heap[b]?=w.heap[b]?:=fun b hb=>ml.below.block b (sub_fz inv.mem hb)
  refine hK _ _ ι' Fz' (after v' w' ι' Fz' hw ml.fz0 hι (fun n hn=>List.all_eq_true.1 hnew n hn) ?_ hv)
  refine inv.mem.frame ml hι hnk memno (fun h hh=> ?_) fun h ha hb=>keep h hb
  by_cases hk:h∈keysT t
  ·rw[turn h hk,g1 h hk]
  ·rw[keep h hk,g2 h hk]
   have hfp:=hh.resolve_right hk
   rcases getH_sub (HLof (fun j=>listed.getD j false) ts 0 H0) t.fp h with⟨_,e⟩|⟨hno,_⟩
   ·rw[e,strikeLs_none fun n hn=>memno n hn h]
   ·exact absurd hfp hno
 have skip:t=⟨.tuple [],[],[],[]⟩→Region.wanted o (yielded ops a.tmps)=false→
  if Region.wanted o (yielded ops a.tmps)then o.wp E.P a w Kc Q else Kc (a.put o.dst undef) w:=by
  intro h hwant
  rw[if_neg (by rw[hwant];simp)]
  refine hK _ _ ι Fz (after undef w ι Fz (fun _ _=>rfl) (fun _ h=>h) (fun _ _=>rfl) (fun n hn=>by rw[h]at hn;simp at hn) (inv.mem.drop fun k=> .inl (keep k (by rw[h];simp[keysT]))) ?_)
  rw[h];simp only[RV];exact⟨[],rfl,by simp[RVs]⟩
 unfold stepM at hstep
 split at hstep
 ·rename_i hgd
  exact run hstep (by simp[Region.wanted,hgd])
 ·rename_i j want hgd
  obtain⟨d,hdst,hstep⟩:=hstep
  have hval:=look d (by
   unfold Oper.looksAt
   refine List.mem_append_right _ ?_
   rw[hgd]
   simp[hdst])
  rcases hstep with⟨p,hp,hstep⟩|⟨hp,hstep⟩
  ·rw[hp,RV_bool]at hval
   have hy:yielded ops a.tmps j=some p:=by
    unfold yielded
    rw[hdst]
    have:a.tmps[d]?=some (.bool p):=by
     rw[Array.getD_eq_getD_getElem?]at hval
     cases hx:a.tmps[d]? with
     |none=>rw[hx]at hval;simp[undef]at hval
     |some x=>rw[hx]at hval;simp at hval;rw[hval]
    simp[this]
   have hwnt:Region.wanted o (yielded ops a.tmps)=(some p==some want):=by simp only[Region.wanted,hgd,hy]
   rcases hstep with⟨rfl,hstep⟩|⟨hne,hstep⟩
   ·exact run hstep (by rw[hwnt];simp)
   ·exact skip hstep (by rw[hwnt];simp[hne])
  ·rw[hp]at hval
   simp only[RV,RVs]at hval
   obtain⟨us,hval,rfl⟩:=hval
   have hy:yielded ops a.tmps j=none:=by
    unfold yielded
    rw[hdst]
    rw[Array.getD_eq_getD_getElem?]at hval
    cases hx:a.tmps[d]? with
    |none=>simp[hx]
    |some x=>rw[hx]at hval;simp at hval;simp[hx,hval]
   exact skip hstep (by simp only[Region.wanted,hgd,hy];rfl)
theorem ready_some{ops:Array Oper}{n:Nat}{listed:Array Bool}(hn:n≤ops.size)(hsz:listed.size=ops.size)(hback:∀(j:Nat) oj,(ops.toList.take n)[j]?=some oj→∀e∈oj.after,Region.binds .any e=true→e.on<j):
 ∀(i:Nat),i<n→listed.getD i false=false→Region.ready .any ops listed≠[]:=by
 intro i
 induction i using Nat.strongRecOn with
 |_ i ih=>
  intro hi hun he
  have ho:(ops.toList.take n)[i]?=some ops[i]:=by rw[List.getElem?_take,if_pos hi];simp[Nat.lt_of_lt_of_le hi hn]
  have hb:=hback i _ ho
  by_cases hall:∀e∈ops[i].after,Region.binds .any e=true→listed.getD e.on false=true
  ·have:i∈Region.ready .any ops listed:=mem_ready.2 ⟨getD_in (by omega) hun,ops[i],by simp[Nat.lt_of_lt_of_le hi hn],hall⟩
   rw[he]at this;simp at this
  ·have:∃e∈ops[i].after,Region.binds .any e=true∧listed.getD e.on false=false:=by
    apply Classical.byContradiction
    intro hno
    refine hall fun e he hbd=> ?_
    cases hl:listed.getD e.on false with
    |true=>rfl
    |false=>exact absurd ⟨e,he,hbd,hl⟩ hno
   obtain⟨e,he',hbd,hl⟩:=this
   exact ih e.on (hb e he' hbd) (Nat.lt_trans (hb e he' hbd) hi) hl he
theorem head_any{E:Env}{ops:Array Oper}{nt n g:Nat}{df:List AV}{F:Nat→AV}{H0:List (Nat×AB)}{ts:List Tr}{Q:Exit→Act→World→Prop}(hΓ:EnvOk E w0.gl)
 (ho:HeadOk E ops df F H0 (ops.toList.take n) ts) (hd:dstOk (ops.toList.take n) nt)
 (hn:n+g=ops.size) (hsk:n<ops.size→Region.sinkB .any ops n=true∧Region.chainB .any ops n=true)
 (htail:∀(a:Act) (w:World) (ι:Nat→HI) (Fz:Nat→Prop) (listed:Array Bool),unl n listed=0→HeadInv .any ops n listed→HInv w0 Fz0 ι H0 df nt F (ops.toList.take n) ts listed a w Fz→wpAny E.P .any ops Q g listed a w):
 ∀(m:Nat) {listed:Array Bool} {a:Act} {w:World} {ι:Nat→HI} {Fz:Nat→Prop},unl n listed=m→HeadInv .any ops n listed→HInv w0 Fz0 ι H0 df nt F (ops.toList.take n) ts listed a w Fz→wpAny E.P .any ops Q (m+g) listed a w:=by
 intro m
 induction m with
 |zero=>intro listed a w ι Fz hu hi inv;rw[Nat.zero_add];exact htail a w ι Fz listed hu hi inv
 |succ m ih=>
  intro listed a w ι Fz hu hinv inv
  rw[show m+1+g=(m+g)+1 by omega]
  obtain⟨k,hk,hkun⟩:=unl_pos (n:=n) (listed:=listed) (by omega)
  have hnle:n≤ops.size:=by omega
  refine⟨fun h=>absurd h (ready_some hnle hinv.size ho.back k hk hkun),fun i hi=> ?_⟩
  obtain⟨hun,o,hoi,hrd⟩:=mem_ready.1 hi
  have hin:i<ops.size:=(Array.getElem?_eq_some_iff.1 hoi).1
  have hlt:i<n:=by
   rcases Nat.lt_or_ge i n with h|h
   ·exact h
   ·have hs:=hsk (by omega)
    exact absurd hi (tail_waits hs.1 hs.2 (by omega) hinv (n-k) k rfl hk (getD_in (by rw[hinv.size];omega) hkun) i h)
  have hl:(ops.toList.take n)[i]?=some o:=by rw[List.getElem?_take,if_pos hlt];simpa using hoi
  have hun':=getD_both hun
  have hst':=head_step (listed:=listed) (i:=i) (o:=o) hΓ ho hd hl hun' hrd (fun j oj hj hlj=>hinv.closed j oj (by
   rw[List.getElem?_take]at hj
   split at hj
   ·simpa using hj
   ·cases hj) hlj) (by rw[hinv.size];exact hin) inv (wpAny E.P .any ops Q (m+g) (listed.setIfInBounds i true)) Q (fun a' w' ι' Fz' inv'=>by
    refine ih ?_ (hinv.set hi hlt) inv'
    have:=unl_set (n:=n) hlt (by rw[hinv.size];exact hin) hun'
    omega)
  unfold wpOp
  rw[hoi]
  simp only
  split
  ·rename_i hw
   rw[if_pos hw]at hst'
   exact .inl hst'
  ·rename_i hw
   rw[if_neg hw]at hst'
   exact hst'
theorem headM_le:∀(l:List Oper),headM l≤l.length
 |[]=>Nat.le_refl _
 |o::l=>by
  unfold headM
  cases Op.isM o.op with
  |true=>simp only[cond_true,List.length_cons];have:=headM_le l;omega
  |false=>simp
theorem Behind.drew{st:St}{a:Act}(b:Behind w0 Fz0 ι Fz st a w):Behind w0 Fz0 ι Fz st a {w with drawn:=w.drawn+1}:=by
 have e:∀b:Nat,Fz b→({w with drawn:=w.drawn+1}:World).heap[b]?=w.heap[b]?:=fun _ _=>rfl
 have m:Mem w0 Fz0 ι Fz st.H {w with drawn:=w.drawn+1}:=
  Mem.grow (w':={w with drawn:=w.drawn+1}) b.2.2 ⟨rfl,rfl,rfl,Nat.le_refl _,fun _ _=>rfl⟩ (fun _ h=>h) (fun _ h=> .inl h) b.2.2.fz
 exact b.mono (Fz':=Fz) (w':={w with drawn:=w.drawn+1}) e (fun _ h=>h) m
theorem headOk_of{E:Env}{ops:Array Oper}{st:St}{hd:List Oper}{ts:List Tr}(hst:StepsM E ops st.df (getF st.fr) st.H hd ts)(hc:condM ops hd ts st=true):HeadOk E ops st.df (getF st.fr) st.H hd ts:=by
 simp only[condM,Bool.and_eq_true]at hc
 have mOf:∀(j:Nat) oj,hd[j]?=some oj→∃mj,(ancs hd [])[j]?=some mj:=fun j oj hj=>by
  obtain⟨pre,_,_,h⟩:=ancs_at hd [] j oj hj
  exact⟨_,by simpa using h⟩
 have tsOf:∀(j:Nat) oj,hd[j]?=some oj→∃tj,ts[j]?=some tj:=fun j oj hj=>by
  obtain⟨tj,h,_⟩:=hst.at hj;exact⟨tj,h⟩
 have lOf:∀(j:Nat) tj,ts[j]?=some tj→∃oj,hd[j]?=some oj:=fun j tj hj=>by
  have:=(List.getElem?_eq_some_iff.1 hj).1
  rw[hst.len]at this
  exact⟨_,List.getElem?_eq_getElem this⟩
 refine⟨hst,fun i j oi oj ti tj mj hlt hi hj hti htj hmj=> ?_,fun j t ht n hn=> ?_,fun j oj hj e he hb=> ?_,fun j t ht n hn=> ?_⟩
 ·have h1:=(rowsM_at hc.1 hj htj hmj).1
  rw[Nat.zero_add]at h1
  have:=colM_at h1 (k:=i) (by rw[List.getElem?_take,if_pos hlt];exact hi) (by rw[List.getElem?_take,if_pos hlt];exact hti)
  rw[Nat.zero_add]at this
  exact pairM_spec this
 ·obtain⟨oj,hj⟩:=lOf j t ht
  obtain⟨mj,hmj⟩:=mOf j oj hj
  exact(rowsM_at hc.1 hj ht hmj).2.1 n hn
 ·obtain⟨tj,htj⟩:=tsOf j oj hj
  obtain⟨mj,hmj⟩:=mOf j oj hj
  have:=(rowsM_at hc.1 hj htj hmj).2.2 e he hb
  rwa[Nat.zero_add]at this
 ·have h1:=List.all_eq_true.1 hc.2 t (List.mem_of_getElem? ht)
  have h2:=List.all_eq_true.1 h1 n hn
  simp only[Bool.and_eq_true,List.all_eq_true,Bool.not_eq_true']at h2
  refine⟨fun s=> ?_,fun e he=>h2.2 e he⟩
  have:∀(fr:List (Nat×AV)),(∀p∈fr,p.2.ment n=false)→(getF fr s).ment n=false:=by
   intro fr
   induction fr with
   |nil=>intro _;rfl
   |cons p r ih=>
    intro h
    obtain⟨u,v⟩:=p
    rw[getF_cons]
    split
    ·exact h (u,v) (by simp)
    ·exact ih fun q hq=>h q (by simp[hq])
  exact this st.fr h2.1
theorem region_draw_of{R:Type}{E:Env}{ops:Array Oper}{nt id:Nat}{st:St}{a:Act}{K:St→Option R}{r:R}{Q:Exit→Act→World→Prop}(hm:E.P.follows .mixedOrders=true)(hΓ:EnvOk E w0.gl)
 (hdst:dstOk ops.toList nt) (hnt:a.tmps.size=nt) (b:Behind w0 Fz0 ι Fz st a w) (hok:drawM ops (headM ops.toList)=true)
 (h:(opsM E ops (ops.toList.take (headM ops.toList)) st fun tr st'=>bif condM ops (ops.toList.take (headM ops.toList)) tr st then opsG E ops (ops.toList.drop (headM ops.toList)) st' K else none)=some r)
 (hQ:∀st' a' w' ι' Fz',K st'=some r→a'.tmps.size=nt→Behind w0 Fz0 ι' Fz' st' a' w'→Q .normal a' w'):(Code.region id ops true).wp E.P Q a w:=by
 have hle:=headM_le ops.toList
 generalize headM ops.toList=n at *
 have hle:n≤ops.size:=by simpa using hle
 unfold drawM at hok
 simp only[Bool.and_eq_true]at hok
 obtain⟨⟨_,h3⟩,h4⟩:=hok
 obtain⟨ts,st1,hst,hk,e1,e2,e3⟩:=opsM_steps _ h
 cases hcond:condM ops (ops.toList.take n) ts st with
 |false=>rw[hcond]at hk;cases hk
 |true=>
 rw[hcond,cond_true]at hk
 have hho:=headOk_of hst hcond
 have hd1:dstOk (ops.toList.take n) nt:=fun o ho=>hdst o (List.mem_of_mem_take ho)
 have hd2:dstOk (ops.toList.drop n) nt:=fun o ho=>hdst o (List.mem_of_mem_drop ho)
 have b':=b.drew
 have hsk:n<ops.size→Region.sinkB .any ops n=true∧Region.chainB .any ops n=true:=by
  intro hlt
  have hb:Nat.beq n ops.size=false:=by cases hx:Nat.beq n ops.size with|false=>rfl|true=>have:=Nat.eq_of_beq_eq_true hx;omega
  rw[hb,cond_false]at h3
  simpa using h3
 have hts:ts.length=n:=by rw[hst.len,List.length_take];simp;omega
 refine wp_region_any hm ?_
 have key:=head_any (w0:=w0) (Fz0:=Fz0) (H0:=st.H) (n:=n) (g:=ops.size-n) (nt:=nt) (df:=st.df) (F:=getF st.fr) (ts:=ts) (Q:=Q) hΓ hho hd1 (by omega) hsk ?_ (unl n (Array.replicate ops.size false))
  (listed:=Array.replicate ops.size false) (a:=a) (w:={w with drawn:=w.drawn+1}) (ι:=ι) (Fz:=Fz) rfl
  ⟨by simp,fun j oj _ hl=>(by rw[getD_replicate_false]at hl;cases hl),fun t _ ht=>getD_in (by simpa using ht) (getD_replicate_false _ _)⟩
  ⟨hnt,b'.2.1,by rw[HL_none _ _ _ (fun j _=>getD_replicate_false _ _)];exact b'.2.2,fun j o t x _ _ _ hl=>(by rw[getD_replicate_false]at hl;cases hl),fun t _=>b'.1 t⟩
 ·have:unl n (Array.replicate ops.size false)=n:=by
   unfold unl
   rw[List.countP_eq_length.2]
   ·simp
   ·intro i hi;rw[getD_replicate_false];rfl
  rw[this,show n+(ops.size-n)=ops.size by omega]at key
  exact key
 ·intro a' w' ι' Fz' listed hu hinv inv
  have hcan:listed=(List.replicate n true++List.replicate (ops.size-n) false).toArray:=by
   apply Array.ext
   ·simp only[List.size_toArray,List.length_append,List.length_replicate,hinv.size];omega
   ·intro i hi1 hi2
    simp only[List.getElem_toArray]
    rcases Nat.lt_or_ge i n with hlt|hge
    ·have h5:=unl_zero hu i hlt
     rw[List.getElem_append_left (by simpa using hlt),List.getElem_replicate]
     simpa[hi1]using h5
    ·have h5:=hinv.tail i hge (by rw[←hinv.size];exact hi1)
     rw[List.getElem_append_right (by simpa using hge),List.getElem_replicate]
     simpa[hi1]using h5
  have hseq:Region.seqB .any ops (ops.toList.drop n).length n listed=true:=by rw[hcan];simpa using h4
  have hb1:Behind w0 Fz0 ι' Fz' st1 a' w':=by
   refine⟨fun t=> ?_,by rw[e2];exact inv.df, ?_⟩
   ·rw[e3]
    have hdist:∀(j k:Nat) oj ok d,(ops.toList.take n)[j]?=some oj→(ops.toList.take n)[k]?=some ok→j≠k→oj.dst=some d→ok.dst≠some d:=by
     intro j k oj ok d hj hk hjk hdj
     obtain⟨tj,htj,_⟩:=hst.at hj
     obtain⟨tk,htk,_⟩:=hst.at hk
     rcases Nat.lt_or_ge j k with h|h
     ·obtain⟨pre,_,_,hm⟩:=ancs_at (ops.toList.take n) [] k ok hk
      simp only[List.length_nil,Nat.zero_add]at hm
      exact(hho.pair j k oj ok tj tk _ h hj hk htj htk hm).dst d hdj
     ·obtain⟨pre,_,_,hm⟩:=ancs_at (ops.toList.take n) [] j oj hj
      simp only[List.length_nil,Nat.zero_add]at hm
      intro hdk
      exact(hho.pair k j ok oj tk tj _ (by omega) hk hj htk htj hm).dst d hdk hdj
    by_cases hw:∃(j:Nat) (oj:Oper),(ops.toList.take n)[j]?=some oj∧oj.dst=some t
    ·obtain⟨j,oj,hj,hdj⟩:=hw
     obtain⟨u,hu',_⟩:=hst.at hj
     rw[runF_at hj hdj (by rw[List.getElem?_map,hu'];rfl) (fun k o' hk ho'=>hdist j k oj o' t hj ho' (Ne.symm hk) hdj)]
     have hjn:j<n:=by
      have:=(List.getElem?_eq_some_iff.1 hj).1
      simp at this;omega
     exact inv.val j oj t u hj hdj hu' (unl_zero hu j hjn)
    ·rw[runF_not fun k o' ho' hd'=>hw ⟨k,o',ho',hd'⟩]
     exact inv.old t fun k ok hk hdk=>absurd ⟨k,ok,hk,hdk⟩ hw
   ·rw[e1]
    have e4:∀h,getH (hrun ts st.H) h=getH (HLof (fun j=>listed.getD j false) ts 0 st.H) h:=by
     intro h
     have:=HL_run ts 0 n st.H
     rw[List.take_of_length_le (by omega)]at this
     rw[←this]
     refine HL_congr ts 0 _ _ h rfl fun j t hj _=> ?_
     have hjn:j<n:=by have:=(List.getElem?_eq_some_iff.1 hj).1;omega
     simp only[Nat.zero_add]
     rw[unl_zero hu j hjn,decide_eq_true hjn]
    exact inv.mem.drop fun k=> .inl (e4 k)
  have:=wpAny_of_seq (md:= .any) (Q':=Q) (ops.toList.drop n) n listed a' w' (fun j=>by simp[List.getElem?_drop]) hseq (opsG_of hΓ _ hd2 inv.tsize hb1 hk hQ)
  have e:(ops.toList.drop n).length=ops.size-n:=by simp
  rwa[e]at this
end
end Go.Av
namespace Go.Av
open Go Go.RowKit
section
variable {R:Type} {P:Program} {w0:Root} {Fz0:Nat→Prop} {ι:Nat→HI} {Fz:Nat→Prop} {H:List (Nat×AB)} {w:World}
theorem getF_keep(fr:List (Nat×AV)):∀(l:List Nat) (t:Nat),getF (keepFr fr l) t=getF fr t∨getF (keepFr fr l) t= .dead
 |[],t=> .inr rfl
 |s::l,t=>by
  show getF ((s,getF fr s)::keepFr fr l) t=_∨getF ((s,getF fr s)::keepFr fr l) t=_
  rw[getF_cons]
  by_cases e:s=t
  ·subst e;left;simp
  ·rw[if_neg e];exact getF_keep fr l t
theorem getH_keep(H:List (Nat×AB)):∀(l:List Nat) (t:Nat),getH (keepHp H l) t=getH H t∨getH (keepHp H l) t= .gone
 |[],t=> .inr rfl
 |s::l,t=>by
  show getH ((s,getH H s)::keepHp H l) t=_∨getH ((s,getH H s)::keepHp H l) t=_
  rw[getH_cons]
  by_cases e:s=t
  ·subst e;left;simp
  ·rw[if_neg e];exact getH_keep H l t
theorem Behind.keep{st:St}{a:Act}(b:Behind w0 Fz0 ι Fz st a w)(l l':List Nat):Behind w0 Fz0 ι Fz ⟨keepFr st.fr l,keepHp st.H l',st.df⟩ a w:=by
 refine⟨fun t=> ?_,b.2.1,b.2.2.drop (getH_keep st.H l')⟩
 rcases getF_keep st.fr l t with e|e
 ·rw[e];exact b.1 t
 ·rw[e];simp[RV]
theorem RV_ren{ι':Nat→HI}{g h:Nat}(hι:∀k,k≠h→ι' k=ι k)(hh:ι' h=ι g){a:AV}{v:Value}(hm:a.ment h=false)(hr:RV ι Fz w a v):RV ι' Fz w (a.ren g h) v:=by
 have strike:RV ι' Fz w (a.strike g) v:=by
  unfold AV.strike
  cases hg:a.ment g with
  |true=>simp[RV]
  |false=>
   simp only[cond_false]
   exact RV_mono (fun _ _=>rfl) (fun _ h=>h) a v (fun k hk=>hι k (fun e=>by rw[e,hm]at hk;cases hk)) hr
 cases a with
 |own κ k=>
  simp only[AV.ren]
  cases hg:Nat.beq k g with
  |true=>have e:=Nat.eq_of_beq_eq_true hg;subst e;simp only[cond_true,RV]at hr⊢;rw[hh];exact hr
  |false=>simp only[cond_false];exact RV_mono (fun _ _=>rfl) (fun _ h=>h) _ v (fun k' hk=>hι k' (fun e=>by rw[e,hm]at hk;cases hk)) hr
 |sub κ k off len=>
  simp only[AV.ren]
  cases hg:Nat.beq k g with
  |true=>have e:=Nat.eq_of_beq_eq_true hg;subst e;simp only[cond_true,RV]at hr⊢;rw[hh];exact hr
  |false=>simp only[cond_false];exact RV_mono (fun _ _=>rfl) (fun _ h=>h) _ v (fun k' hk=>hι k' (fun e=>by rw[e,hm]at hk;cases hk)) hr
 |_=>exact strike
theorem ment_strike(h:Nat)(a:AV):(a.strike h).ment h=false:=by
 unfold AV.strike
 cases hm:a.ment h with
 |true=>rfl
 |false=>simpa using hm
theorem RVs_ren{ι':Nat→HI}{g h:Nat}(hι:∀k,k≠h→ι' k=ι k)(hh:ι' h=ι g):∀{cs:List AV} {vs:List Value},(∀c∈cs,c.ment h=false)→RVs ι Fz w cs vs→RVs ι' Fz w (cs.map (AV.ren g h)) vs
 |[],vs,_,h=>by simp only[RVs,List.map_nil]at h⊢;exact h
 |c::cs,vs,hm,h=>by
  simp only[RVs,List.map_cons]at h⊢
  obtain⟨v,r,e,h1,h2⟩:=h
  exact⟨v,r,e,RV_ren hι hh (hm c (by simp)) h1,RVs_ren hι hh (fun c hc=>hm c (by simp[hc])) h2⟩
theorem ren_of{st:St}{a:Act}{g h:Nat}{e':TypeId}{κ':Kd}{xs:List (Den κ')}(b:Behind w0 Fz0 ι Fz st a w)(hgh:g≠h)(hdn:okNew st.df h=true)(hd2:okDf st.df g=true)(hg:getH st.H g= .arr e' κ' xs):
 Behind w0 Fz0 (upd ι h (ι g)) Fz ⟨(st.fresh h).fr.map fun(t,v)=>(t,v.ren g h),(h, .arr e' κ' xs)::(g, .gone)::(st.fresh h).H.map fun(t,b)=>(t,b.ren g h),(st.fresh h).df⟩ a w:=by
 have m:=b.2.2
 have hd1:=(okNew_df hdn).1
 have hι:∀k,k≠h→upd ι h (ι g) k=ι k:=fun k hk=>upd_ne _ _ _ hk
 have hh:upd ι h (ι g) h=ι g:=upd_at _ _ _
 have hrb:=m.rb g
 rw[hg]at hrb
 have hlive:(getH st.H g).live:=by rw[hg];trivial
 have eH:∀k,getH ((h,AB.arr e' κ' xs)::(g, .gone)::(st.fresh h).H.map fun(t,b)=>(t,b.ren g h)) k=if h=k then .arr e' κ' xs else if g=k then .gone else((getH st.H k).strike h).ren g h:=fun k=>by
  rw[getH_cons,getH_cons,getH_map (AB.ren g h) rfl]
  show(if h=k then _ else if g=k then _ else(getH (strikeH h st.H) k).ren g h)=_
  rw[getH_strike]
 have liveK:∀k,h≠k→(getH ((h,AB.arr e' κ' xs)::(g, .gone)::(st.fresh h).H.map fun(t,b)=>(t,b.ren g h)) k).live→k≠g∧(getH st.H k).live:=fun k hk hl=>by
  rw[eH,if_neg hk]at hl
  split at hl
  ·exact hl.elim
  ·rename_i hne
   refine⟨Ne.symm hne, ?_⟩
   revert hl
   cases getH st.H k<;>simp[AB.strike,AB.ren,AB.live]
 refine⟨fun t=> ?_, ?_,⟨m.below,m.fz,m.fz0,m.fzn,fun k=> ?_,fun k hk hv=> ?_,fun k k' hk hk' hv hv' he=> ?_,fun k hk=>(upd_ne _ _ _ (by have:=(okNew_df hdn).2;omega)).trans (m.iot k hk),fun k=> ?_,m.gz⟩⟩
 ·show RV _ _ _ (getF ((strikeF h st.fr).map fun(t,v)=>(t,v.ren g h)) t) _
  rw[getF_map (AV.ren g h) rfl,getF_strike]
  exact RV_ren hι hh (ment_strike h _) (RV_strike (fun _ _=>rfl) (fun _ h=>h) (fun _ _=>rfl) (b.1 t))
 ·exact RD_mono (fun _ _=>rfl) (fun _ h=>h) _ _ (fun k hk=>hι k (fun e=>by subst e;have hk:mentL k st.df=true:=hk;simp[okDf,hk]at hd1)) b.2.1
 ·rw[eH]
  by_cases e1:h=k
  ·subst e1
   rw[if_pos rfl]
   simp only[RB]at hrb⊢
   rw[hh]
   exact hrb
  ·rw[if_neg e1]
   by_cases e2:g=k
   ·rw[if_pos e2];trivial
   ·rw[if_neg e2]
    have hk:=m.rb k
    generalize getH st.H k=bk at hk
    cases bk with
    |gone=>trivial
    |box cs=>
     simp only[RB,AB.strike,AB.ren]at hk⊢
     rw[hι k (Ne.symm e1)]
     obtain⟨hv,vs,T,h1,h2,h3⟩:=hk
     refine⟨hv,vs,T,h1,RVs_ren hι hh (fun c hc=> ?_) (RVs_strike (d:=h) (fun _ _=>rfl) (fun _ h=>h) (fun _ _=>rfl) h2),h3⟩
     obtain⟨c',_,rfl⟩:=List.mem_map.1 hc
     exact ment_strike h c'
    |arr e'' κ'' ys=>
     simp only[RB,AB.strike,AB.ren]at hk⊢
     rw[hι k (Ne.symm e1)]
     exact hk
 ·by_cases e1:h=k
  ·subst e1
   rw[hh]at hv⊢
   exact m.sep g hlive hv
  ·rw[hι k (Ne.symm e1)]at hv⊢
   exact m.sep k (liveK k e1 hk).2 hv
 ·by_cases e1:h=k
  ·subst e1
   by_cases e2:h=k'
   ·exact e2
   ·rw[hh]at hv he
    rw[hι k' (Ne.symm e2)]at hv' he
    obtain⟨n1,n2⟩:=liveK k' e2 hk'
    exact absurd (m.inj g k' hlive n2 hv hv' he).symm n1
  ·by_cases e2:h=k'
   ·subst e2
    rw[hh]at hv' he
    rw[hι k (Ne.symm e1)]at hv he
    obtain⟨n1,n2⟩:=liveK k e1 hk
    exact absurd (m.inj k g n2 hlive hv hv' he) n1
   ·rw[hι k (Ne.symm e1)]at hv he
    rw[hι k' (Ne.symm e2)]at hv' he
    exact m.inj k k' (liveK k e1 hk).2 (liveK k' e2 hk').2 hv hv' he
 ·rw[eH]
  by_cases e1:h=k
  ·subst e1
   rw[if_pos rfl,hh]
   have:=m.cn g
   rwa[hg]at this
  ·rw[if_neg e1,hι k (Ne.symm e1)]
   split
   ·trivial
   ·have:=m.cn k
    revert this
    cases getH st.H k<;>exact id
theorem normOwn_of:∀(l:List (Nat×TypeId×Kd×Nat)) {ι:Nat→HI} {st st':St} {a:Act},normOwn l st=some st'→Behind w0 Fz0 ι Fz st a w→∃ι',Behind w0 Fz0 ι' Fz st' a w
 |[],ι,st,st',a,h,b=>by
  simp only[normOwn,Option.some.injEq]at h
  subst h
  exact⟨ι,b⟩
 |(t,e,κ,h')::l,ι,st,st',a,h,b=>by
  simp only[normOwn]at h
  obtain⟨st1,h1,h⟩:=Option.bind_eq_some_iff.1 h
  have:∃ι1,Behind w0 Fz0 ι1 Fz st1 a w:=by
   unfold ownV at h1
   cases hd:okNew st.df h' with
   |false=>rw[hd]at h1;cases h1
   |true=>
    rw[hd,Bool.not_true,cond_false]at h1
    split at h1
    ·rename_i hv
     have hval:=b.1 t
     rw[hv]at hval
     simp only[RV]at hval
     obtain⟨p,q⟩:=b.virt (el:=e) (κ:=κ) hd
     simp only[Option.some.injEq]at h1
     subst h1
     refine⟨_,fun s=> ?_,p.2.1,p.2.2⟩
     show RV _ _ _ (getF ((t,_)::strikeF h' st.fr) s) _
     rw[getF_cons]
     by_cases e1:t=s
     ·subst e1;rw[if_pos rfl,hval];exact q
     ·rw[if_neg e1];exact p.1 s
    ·rename_i κ0 g hv
     cases hg:Nat.beq g h' with
     |true=>rw[hg,cond_true]at h1;simp only[Option.some.injEq]at h1;subst h1;exact⟨ι,b⟩
     |false=>
      rw[hg,cond_false]at h1
      cases hd2:okDf st.df g with
      |false=>rw[hd2]at h1;cases h1
      |true=>
       rw[hd2,Bool.not_true,cond_false]at h1
       split at h1
       ·rename_i e' κ' xs hgg
        simp only[Option.some.injEq]at h1
        subst h1
        exact⟨_,ren_of b (fun e=>by rw[e]at hg;simp at hg) hd hd2 hgg⟩
       ·cases h1
    ·cases h1
  obtain⟨ι1,b1⟩:=this
  exact normOwn_of l h b1
theorem Behind.setCell{st:St}{a:Act}{bx j:Nat}{cs:List AV}{v:AV}(b:Behind w0 Fz0 ι Fz st a w)(hb:getH st.H bx= .box cs)
 (hv:∀vs:List Value,RVs ι Fz w cs vs→∀u,vs[j]?=some u→RV ι Fz w v u):Behind w0 Fz0 ι Fz ⟨st.fr,(bx, .box (cs.set j v))::st.H,st.df⟩ a w:=by
 have m:=b.2.2
 have hrb:=m.rb bx
 rw[hb]at hrb
 have hlive:(getH st.H bx).live:=by rw[hb];trivial
 simp only[RB]at hrb
 obtain⟨hvt,vs,T,⟨rest,hh⟩,hcs,h1⟩:=hrb
 refine⟨b.1,b.2.1,m.upd hlive hvt (Upd.refl hh) ?_ trivial (by have:=m.cn bx;rw[hb]at this;exact this)⟩
 simp only[RB]
 refine⟨hvt,vs,T,⟨rest,hh⟩, ?_,h1⟩
 rcases Nat.lt_or_ge j vs.length with hj|hj
 ·have:=RVs_set j hcs (hv vs hcs vs[j] (List.getElem?_eq_getElem hj))
  rwa[List.set_getElem_self hj]at this
 ·rw[List.set_eq_of_length_le (by rw[RVs_len hcs];exact hj)];exact hcs
theorem normOwnC_of:∀(l:List (Nat×Nat×TypeId×Kd×Nat)) {ι:Nat→HI} {st st':St} {a:Act},normOwnC l st=some st'→Behind w0 Fz0 ι Fz st a w→∃ι',Behind w0 Fz0 ι' Fz st' a w
 |[],ι,st,st',a,h,b=>by
  simp only[normOwnC,Option.some.injEq]at h
  subst h
  exact⟨ι,b⟩
 |(bx,j,e,κ,h')::l,ι,st,st',a,h,b=>by
  simp only[normOwnC]at h
  split at h
  ·rename_i cs hbx
   obtain⟨st1,h1,h⟩:=Option.bind_eq_some_iff.1 h
   have:∃ι1,Behind w0 Fz0 ι1 Fz st1 a w:=by
    unfold ownV at h1
    cases hd:okNew st.df h' with
    |false=>rw[hd]at h1;cases h1
    |true=>
     rw[hd,Bool.not_true,cond_false]at h1
     split at h1
     ·rename_i hv
      obtain⟨p,q⟩:=b.virt (el:=e) (κ:=κ) hd
      unfold setC at h1
      dsimp only at h1
      split at h1
      ·rename_i cs' hcs'
       simp only[Option.some.injEq]at h1
       subst h1
       refine⟨_,p.setCell hcs' ?_⟩
       have hne:h'≠bx:=fun e'=>by
        subst e'
        simp[getH_cons]at hcs'
       have hcs2:cs'=cs.map (AV.strike h'):=by
        have:getH ((h',AB.arr e κ [])::strikeH h' st.H) bx= .box cs':=hcs'
        rw[getH_cons,if_neg hne,getH_strike,hbx]at this
        simp only[AB.strike,AB.box.injEq]at this
        exact this.symm
       intro vs hvs u hu
       subst hcs2
       have hcj:cs[j]?=some .nils:=by
        cases hc:cs[j]? with
        |none=>rw[hc]at hv;simp at hv
        |some c=>rw[hc]at hv;simp at hv;rw[hv]
       have:(cs.map (AV.strike h'))[j]?=some .nils:=by rw[List.getElem?_map,hcj];rfl
       obtain⟨u',hu',hru⟩:=RVs_at hvs this
       rw[hu]at hu'
       simp only[Option.some.injEq]at hu'
       subst hu'
       simp only[RV]at hru
       rw[hru];exact q
      ·cases h1
     ·rename_i κ0 g hv
      cases hg:Nat.beq g h' with
      |true=>rw[hg,cond_true]at h1;simp only[Option.some.injEq]at h1;subst h1;exact⟨ι,b⟩
      |false=>
       rw[hg,cond_false]at h1
       cases hd2:okDf st.df g with
       |false=>rw[hd2]at h1;cases h1
       |true=>
        rw[hd2,Bool.not_true,cond_false]at h1
        split at h1
        ·rename_i e' κ' xs hgg
         simp only[Option.some.injEq]at h1
         subst h1
         exact⟨_,ren_of b (fun e=>by rw[e]at hg;simp at hg) hd hd2 hgg⟩
        ·cases h1
     ·cases h1
   obtain⟨ι1,b1⟩:=this
   exact normOwnC_of l h b1
  ·cases h
theorem RV_nil_row{ι:Nat→HI}{Fz:Nat→Prop}{κ:Kd}{v:Value}(h:RV ι Fz w .nils v):RV ι Fz w (.pv (.list κ) []) v:=by
 simp only[RV]at h⊢
 subst h
 exact⟨.slice none 0 0,rfl,none,0,rfl,by simp, .inl (by simp)⟩
theorem normPv_of:∀(l:List (Nat×Kd)) {Fz:Nat→Prop} {st st':St} {a:Act},normPv l st=some st'→Behind w0 Fz0 ι Fz st a w→∃Fz',Behind w0 Fz0 ι Fz' st' a w
 |[],Fz,st,st',a,h,b=>by
  simp only[normPv,Option.some.injEq]at h
  subst h
  exact⟨Fz,b⟩
 |(t,κ)::l,Fz,st,st',a,h,b=>by
  simp only[normPv]at h
  obtain⟨st1,h1,h⟩:=Option.bind_eq_some_iff.1 h
  obtain⟨F1,_,b1,_⟩:=frzArgs_of _ h1 b
  split at h
  ·rename_i hn
   refine normPv_of l h ⟨fun s=> ?_,b1.2.1,b1.2.2⟩
   show RV _ _ _ (getF ((t,_)::st1.fr) s) _
   rw[getF_cons]
   by_cases e:t=s
   ·subst e
    rw[if_pos rfl]
    have:=b1.1 t
    rw[hn]at this
    exact RV_nil_row this
   ·rw[if_neg e];exact b1.1 s
  ·exact normPv_of l h b1
  ·rename_i ti κ' x hv
   cases hd:decide (κ= .unit)with
   |false=>rw[hd]at h;cases h
   |true=>
    rw[hd,cond_true]at h
    obtain⟨c,hc,h⟩:=Option.bind_eq_some_iff.1 h
    refine normPv_of l h ⟨fun s=> ?_,b1.2.1,b1.2.2⟩
    show RV _ _ _ (getF ((t,_)::st1.fr) s) _
    rw[getF_cons]
    by_cases e:t=s
    ·subst e
     rw[if_pos rfl]
     have:=b1.1 t
     rw[hv]at this
     exact RV_any.2 (cev_of b1.2.2.rb (fun _ h=>h) _ _ c _ hc this (fun h hm=>by simp[AV.ment]at hm) (fun h c' hx=>by
      rcases hx with⟨o,hx|⟨t',hx⟩⟩
      ·cases hx
      ·cases hx))
    ·rw[if_neg e];exact b1.1 s
  ·cases h
theorem normPvC_of:∀(l:List (Nat×Nat×Kd)) {Fz:Nat→Prop} {st st':St} {a:Act},normPvC l st=some st'→Behind w0 Fz0 ι Fz st a w→∃Fz',Behind w0 Fz0 ι Fz' st' a w
 |[],Fz,st,st',a,h,b=>by
  simp only[normPvC,Option.some.injEq]at h
  subst h
  exact⟨Fz,b⟩
 |(bx,j,κ)::l,Fz,st,st',a,h,b=>by
  simp only[normPvC]at h
  split at h
  ·obtain⟨st1,h1,h⟩:=Option.bind_eq_some_iff.1 h
   obtain⟨F1,_,b1,_⟩:=frzArgs_of _ h1 b
   split at h
   ·rename_i cs1 hb1
    split at h
    ·rename_i hn
     obtain⟨st2,h2,h⟩:=Option.bind_eq_some_iff.1 h
     unfold setC at h2
     rw[hb1]at h2
     simp only[Option.some.injEq]at h2
     subst h2
     refine normPvC_of l h (b1.setCell hb1 ?_)
     intro vs hvs u hu
     have hcj:cs1[j]?=some .nils:=by
      cases hc:cs1[j]? with
      |none=>rw[hc]at hn;simp at hn
      |some c=>rw[hc]at hn;simp at hn;rw[hn]
     obtain⟨u',hu',hru⟩:=RVs_at hvs hcj
     rw[hu]at hu'
     simp only[Option.some.injEq]at hu'
     subst hu'
     exact RV_nil_row hru
    ·exact normPvC_of l h b1
    ·cases h
   ·cases h
  ·cases h
theorem normBx_of:∀(l:List (Nat×Kd)) {Fz:Nat→Prop} {st st':St} {a:Act},normBx l st=some st'→Behind w0 Fz0 ι Fz st a w→∃Fz',Behind w0 Fz0 ι Fz' st' a w
 |[],Fz,st,st',a,h,b=>by
  simp only[normBx,Option.some.injEq]at h
  subst h
  exact⟨Fz,b⟩
 |(k,κ)::l,Fz,st,st',a,h,b=>by
  simp only[normBx]at h
  split at h
  ·exact normBx_of l h b
  cases hd:okDf st.df k with
  |false=>rw[hd]at h;cases h
  |true=>
   rw[hd,cond_true]at h
   obtain⟨st1,h1,h⟩:=Option.bind_eq_some_iff.1 h
   obtain⟨F1,b1⟩:=frzB_of b hd h1
   exact normBx_of l h b1
theorem gate_of{g:Option Nat}{x:Option R}{r:R}(h:gateO g x=some r):x=some r:=by
 cases g with
 |none=>exact h
 |some n=>cases n with
  |zero=>cases h
  |succ n=>exact h
theorem norm_of{nm:Option Norm}{st:St}{K:St→Option R}{r:R}{a:Act}(h:normK nm st K=some r)(b:Behind w0 Fz0 ι Fz st a w):∃st' ι' Fz',K st'=some r∧Behind w0 Fz0 ι' Fz' st' a w:=by
 cases nm with
 |none=>exact⟨st,ι,Fz,h,b⟩
 |some n=>
  simp only[normK,Norm.at]at h
  obtain⟨st3,h3,h⟩:=Option.bind_eq_some_iff.1 h
  obtain⟨st1,h1,h3⟩:=Option.bind_eq_some_iff.1 h3
  obtain⟨st2,h2,h3⟩:=Option.bind_eq_some_iff.1 h3
  obtain⟨st4,h4,h3⟩:=Option.bind_eq_some_iff.1 h3
  obtain⟨st5,h5,h3⟩:=Option.bind_eq_some_iff.1 h3
  obtain⟨st6,h6,h3⟩:=Option.bind_eq_some_iff.1 h3
  simp only[Option.some.injEq]at h3
  subst h3
  obtain⟨ι1,b1⟩:=normOwn_of _ h1 b
  obtain⟨ι2,b2⟩:=normOwnC_of _ h2 b1
  obtain⟨F3,b3⟩:=normPv_of _ h4 b2
  obtain⟨F4,b4⟩:=normPvC_of _ h5 b3
  obtain⟨F5,b5⟩:=normBx_of _ h6 b4
  exact⟨_,ι2,F5,gate_of h,b5.keep _ _⟩
def Ex.out:Ex→Exit
 | .normal=> .normal
 | .exit id=> .exit id
 | .ret=> .ret
def Left(w0:Root)(Fz0:Nat→Prop)(nt:Nat)(K:Ex→St→Option R)(r:R)(Q:Exit→Act→World→Prop):Prop:=
 ∀e st a w ι Fz,K e st=some r→a.tmps.size=nt→Behind w0 Fz0 ι Fz st a w→Q e.out a w
theorem dstB_of{nt:Nat}{l:List Oper}(h:l.all (dstB nt)=true):dstOk l nt:=by
 intro o ho d hd
 have:=List.all_eq_true.1 h o ho
 unfold dstB at this
 rw[hd]at this
 exact Nat.lt_of_lt_of_le (Nat.lt_of_succ_le (Nat.le_of_ble_eq_true this)) (Nat.le_refl _)
theorem evC_of{E:Env}{nt:Nat}(hΓ:EnvOk E w0.gl){r:R}:∀(c:Code) {ι:Nat→HI} {Fz:Nat→Prop} {st:St} {a:Act} {w:World} {K:Ex→St→Option R} {Q:Exit→Act→World→Prop},
 codeB nt c=true→evC E c st K=some r→a.tmps.size=nt→Behind w0 Fz0 ι Fz st a w→Left w0 Fz0 nt K r Q→c.wp E.P Q a w
 | .skip,ι,Fz,st,a,w,K,Q,_,h,hnt,b,hQ=>wp_skip (hQ .normal st a w ι Fz h hnt b)
 | .region id ops draw,ι,Fz,st,a,w,K,Q,hc,h,hnt,b,hQ=>by
  simp only[evC]at h
  simp only[codeB]at hc
  cases draw with
  |false=>
   simp only[cond_false]at h
   exact wp_region_list (opsG_of hΓ ops.toList (dstB_of hc) hnt b h fun st' a' w' ι' Fz' hk hnt' b'=>hQ .normal st' a' w' ι' Fz' hk hnt' b')
  |true=>
   rw[cond_true]at h
   cases hok:(E.P.follows .mixedOrders&&drawM ops (headM ops.toList))with
   |false=>rw[hok]at h;cases h
   |true=>
    rw[hok,cond_true]at h
    simp only[Bool.and_eq_true]at hok
    exact region_draw_of hok.1 hΓ (dstB_of hc) hnt b hok.2 h fun st' a' w' ι' Fz' hk hnt' b'=>hQ .normal st' a' w' ι' Fz' hk hnt' b'
 | .seq x y,ι,Fz,st,a,w,K,Q,hc,h,hnt,b,hQ=>by
  simp only[evC]at h
  simp only[codeB,Bool.and_eq_true]at hc
  refine wp_seq (evC_of hΓ x hc.1 h hnt b ?_)
  intro e st' a' w' ι' Fz' hk hnt' b'
  cases e with
  |normal=>
   simp only[kSeq]at hk
   obtain⟨st2,ι2,F2,hk,b2⟩:=norm_of hk b'
   exact evC_of hΓ y hc.2 hk hnt' b2 hQ
  |exit id=>exact hQ (.exit id) st' a' w' ι' Fz' hk hnt' b'
  |ret=>exact hQ .ret st' a' w' ι' Fz' hk hnt' b'
 | .cond c x y,ι,Fz,st,a,w,K,Q,hc,h,hnt,b,hQ=>by
  simp only[evC]at h
  simp only[codeB,Bool.and_eq_true]at hc
  split at h
  ·rename_i p hp
   have hv:=opnd_of (gl:=E.gl) (by rw[hΓ.gl];exact b.2.2.gok) b.1 c
   rw[hp,RV_bool]at hv
   cases p with
   |true=>exact wp_cond_true hv (evC_of hΓ x hc.1 h hnt b hQ)
   |false=>exact wp_cond_false hv (evC_of hΓ y hc.2 h hnt b hQ)
  ·cases h
 | .block id c,ι,Fz,st,a,w,K,Q,hc,h,hnt,b,hQ=>by
  simp only[evC]at h
  simp only[codeB]at hc
  refine wp_block (evC_of hΓ c hc h hnt b ?_)
  intro e st' a' w' ι' Fz' hk hnt' b'
  cases e with
  |normal=>exact hQ .normal st' a' w' ι' Fz' hk hnt' b'
  |ret=>exact hQ .ret st' a' w' ι' Fz' hk hnt' b'
  |exit i=>
   simp only[kBlock]at hk
   simp only[Ex.out,Exit.inBlock]
   cases hi:Nat.beq i id with
   |true=>
    rw[hi,cond_true]at hk
    rw[if_pos (Nat.eq_of_beq_eq_true hi)]
    exact hQ .normal st' a' w' ι' Fz' hk hnt' b'
   |false=>
    rw[hi,cond_false]at hk
    rw[if_neg (fun e=>by rw[e]at hi;simp at hi)]
    exact hQ (.exit i) st' a' w' ι' Fz' hk hnt' b'
 | .loop c,ι,Fz,st,a,w,K,Q,hc,h,hnt,b,hQ=>by
  simp only[evC]at h
  simp only[codeB]at hc
  obtain⟨n0,st1,ι1,F1,h,b1⟩:∃n st1 ι1 F1,loopN (advOf E c) (evC E c) n st1 K=some r∧Behind w0 Fz0 ι1 F1 st1 a w:=by
   cases hp:peelB E c with
   |true=>rw[hp,cond_true]at h;exact⟨E.n+1,st,ι,Fz,h,b⟩
   |false=>
    rw[hp,cond_false]at h
    obtain⟨st1,ι1,F1,h,b1⟩:=norm_of h b
    exact⟨E.n,st1,ι1,F1,h,b1⟩
  refine wp_loop_ghost (fun n a w=>a.tmps.size=nt∧∃ι Fz st,Behind w0 Fz0 ι Fz st a w∧loopN (advOf E c) (evC E c) n st K=some r) n0 ⟨hnt,ι1,F1,st1,b1,h⟩ ?_
  rintro n a w ⟨hnt,ι,Fz,st,b,h⟩
  cases n with
  |zero=>simp[loopN]at h
  |succ n=>
   simp only[loopN]at h
   refine evC_of hΓ c hc h hnt b ?_
   intro e st' a' w' ι' Fz' hk hnt' b'
   cases e with
   |normal=>
    simp only[kSeq]at hk
    obtain⟨st2,ι2,F2,hk,b2⟩:=norm_of hk b'
    exact⟨n,by omega,hnt',ι2,F2,st2,b2,hk⟩
   |exit id=>exact hQ (.exit id) st' a' w' ι' Fz' hk hnt' b'
   |ret=>exact hQ .ret st' a' w' ι' Fz' hk hnt' b'
 | .exit id,ι,Fz,st,a,w,K,Q,_,h,hnt,b,hQ=>wp_exit (hQ (.exit id) st a w ι Fz h hnt b)
 | .ret,ι,Fz,st,a,w,K,Q,_,h,hnt,b,hQ=>wp_ret (hQ .ret st a w ι Fz h hnt b)
 | .rangeFunc _ _ _ _,_,_,_,_,_,_,_,_,h,_,_,_=>by simp[evC]at h
 | .scope _,_,_,_,_,_,_,_,_,h,_,_,_=>by simp[evC]at h
 | .label _,_,_,_,_,_,_,_,_,h,_,_,_=>by simp[evC]at h
 | .goto _,_,_,_,_,_,_,_,_,h,_,_,_=>by simp[evC]at h
 | .refuse _,_,_,_,_,_,_,_,_,h,_,_,_=>by simp[evC]at h
end
end Go.Av
namespace Go.Av
open Go Go.RowKit
structure Idle(P:Program)(f:FuncId):Prop where
 enters:∀(args:Array Value) (w:World),(callFunc f args).run P w= .ok (.enter f args) w
 does:∀(args:List Value) (w:World),CallsD P f args.toArray .returning w fun e u w'=>(∃v,e= .returned v)∧u= .returning∧w'=w
section
variable {R:Type} {P:Program} {w0:Root} {Fz0:Nat→Prop} {ι:Nat→HI} {Fz:Nat→Prop} {H:List (Nat×AB)} {w:World}
theorem frArgs_of:∀(ps:List Par) (i:Nat) (x:HL ps) (vals:List Value),RA Fz w ps x vals→∀t,RV ι0 Fz w (getF (frArgs i ps x) t) (if t<i then undef else(vals[t-i]?).getD undef)∨getF (frArgs i ps x) t= .dead
 |[],i,x,vals,h,t=> .inr rfl
 | .k κ::ps,i,x,vals,h,t=>by
  simp only[RA]at h
  obtain⟨v,r,rfl,h1,h2⟩:=h
  simp only[frArgs,getF_cons]
  by_cases e:i=t
  ·subst e;left;simpa using h1
  ·rw[if_neg e]
   rcases frArgs_of ps (i+1) x.2 r h2 t with h|h
   ·by_cases hlt:t<i+1
    ·have:t<i:=by omega
     rw[if_pos hlt]at h
     left;rw[if_pos this];exact h
    ·rw[if_neg hlt]at h
     left
     rw[if_neg (by omega),show t-i=(t-(i+1))+1 by omega,List.getElem?_cons_succ]
     exact h
   ·exact .inr h
 | .fn f::ps,i,x,vals,h,t=>by
  simp only[RA]at h
  obtain⟨r,rfl,h2⟩:=h
  simp only[frArgs,getF_cons]
  by_cases e:i=t
  ·subst e;left;simp only[if_true,Nat.lt_irrefl,if_false,Nat.sub_self,List.getElem?_cons_zero,Option.getD_some,RV]
   exact⟨[],rfl,by simp[RVs]⟩
  ·rw[if_neg e]
   rcases frArgs_of ps (i+1) x r h2 t with h|h
   ·by_cases hlt:t<i+1
    ·have:t<i:=by omega
     rw[if_pos hlt]at h
     left;rw[if_pos this];exact h
    ·rw[if_neg hlt]at h
     left
     rw[if_neg (by omega),show t-i=(t-(i+1))+1 by omega,List.getElem?_cons_succ]
     exact h
   ·exact .inr h
 | .ifc tt κ::ps,i,x,vals,h,t=>by
  simp only[RA]at h
  obtain⟨v,r,rfl,h1,h2⟩:=h
  simp only[frArgs,getF_cons]
  by_cases e:i=t
  ·subst e;left;simp only[if_true,Nat.lt_irrefl,if_false,Nat.sub_self,List.getElem?_cons_zero,Option.getD_some]
   simp only[RV]
   exact⟨v,rfl,by simpa only[RV]using h1⟩
  ·rw[if_neg e]
   rcases frArgs_of ps (i+1) x.2 r h2 t with h|h
   ·by_cases hlt:t<i+1
    ·have:t<i:=by omega
     rw[if_pos hlt]at h
     left;rw[if_pos this];exact h
    ·rw[if_neg hlt]at h
     left
     rw[if_neg (by omega),show t-i=(t-(i+1))+1 by omega,List.getElem?_cons_succ]
     exact h
   ·exact .inr h
theorem RA_len:∀(ps:List Par) (x:HL ps) (vals:List Value),RA Fz w ps x vals→vals.length=ps.length
 |[],x,vals,h=>by simp only[RA]at h;rw[h];rfl
 | .k κ::ps,x,vals,h=>by simp only[RA]at h;obtain⟨v,r,rfl,_,h2⟩:=h;simp[RA_len ps x.2 r h2]
 | .fn f::ps,x,vals,h=>by simp only[RA]at h;obtain⟨r,rfl,h2⟩:=h;simp[RA_len ps x r h2]
 | .ifc t κ::ps,x,vals,h=>by simp only[RA]at h;obtain⟨v,r,rfl,_,h2⟩:=h;simp[RA_len ps x.2 r h2]
theorem enter_behind{ps:List Par}{x:HL ps}{vals:List Value}{nt:Nat}(hf:∀b,Fz b→b<w.heap.size){gl:List Gl}(hgl:GOK gl Fz w)(h:RA Fz w ps x vals)(hn:ps.length≤nt):
 Behind (Root.at w ι0 gl) Fz ι0 Fz ⟨frArgs 0 ps x,[],[]⟩ {tmps:=vals.toArray++Array.replicate (nt-vals.toArray.size) undef,defers:=[]} w:=by
 refine⟨fun t=> ?_,by simp[RD],⟨Bel.refl _ _,hf,fun _ h=>h,fun _ h=> .inl h,fun k=>trivial,fun k hk=>hk.elim,fun k k' hk=>hk.elim,fun _ _=>rfl,fun _=>trivial,hgl,fun b hb ho=>by have:=hf b hb;have ho:w.heap.size≤b:=ho;omega⟩⟩
 rcases frArgs_of ps 0 x vals h t with h'|h'
 ·simp only[Nat.not_lt_zero,if_false,Nat.sub_zero]at h'
  have hl:=RA_len ps x vals h
  have e:(vals.toArray++Array.replicate (nt-vals.toArray.size) undef).getD t undef=(vals[t]?).getD undef:=by
   rw[Array.getD_eq_getD_getElem?]
   by_cases hlt:t<vals.length
   ·rw[Array.getElem?_append_left (by simpa using hlt)];simp
   ·rw[List.getElem?_eq_none (by omega)]
    rw[Array.getElem?_append_right (by simpa using hlt)]
    simp only[Option.getD_none]
    cases hx:(Array.replicate (nt-vals.toArray.size) undef)[t-vals.toArray.size]? with
    |none=>rfl
    |some y=>
     rw[Array.getElem?_replicate]at hx
     split at hx
     ·simp only[Option.some.injEq]at hx;rw[←hx];rfl
     ·cases hx
  rw[e];exact h'
 ·show RV _ _ _ (getF (frArgs 0 ps x) t) _
  rw[h'];simp[RV]
def resG(tmps:Array Value):ResultVar→Sem Value
 | .tmp t=>pure (tmps.getD t undef)
 | .cell x t=>do loadVar t (←asAddr (tmps.getD x undef))
theorem results_eq(fn:Func)(tmps:Array Value):results fn tmps=(do
 let vs←fn.results.mapM (resG tmps)
 pure (if h:vs.size=1 then vs[0]else .tuple vs)):=by
 unfold results
 congr 1
theorem resAV_of{st:St}{a:Act}(b:Behind w0 Fz0 ι Fz st a w):∀(rv:List ResultVar) (avs:List AV),resAV P st rv=some avs→
 ∃vs:List Value,(rv.mapM (resG a.tmps)).run P w= .ok vs w∧RVs ι Fz w avs vs
 |[],avs,h=>by
  simp only[resAV,Option.some.injEq]at h
  subst h
  exact⟨[],by simp,by simp[RVs]⟩
 | .tmp t::rv,avs,h=>by
  simp only[resAV]at h
  obtain⟨l,hl,h⟩:=Option.bind_eq_some_iff.1 h
  simp only[Option.some.injEq]at h
  subst h
  obtain⟨vs,h1,h2⟩:=resAV_of b rv l hl
  refine⟨a.tmps.getD t undef::vs, ?_,by simp only[RVs];exact⟨_,_,rfl,b.1 t,h2⟩⟩
  rw[List.mapM_cons]
  simp only[Sem.run_bind,resG,Sem.run_pure,Result.andThen_ok]
  rw[h1];rfl
 | .cell x t::rv,avs,h=>by
  simp only[resAV]at h
  have hx:=b.1 x
  split at h
  ·rename_i g off hex
   rw[hex]at hx
   simp only[RV]at hx
   obtain⟨hv,hxe⟩:=hx
   have hrb:=b.2.2.rb g
   split at h
   ·rename_i cs hg
    rw[hg]at hrb
    simp only[RB]at hrb
    obtain⟨_,us,T,⟨rest,hh⟩,hcs,h1⟩:=hrb
    have fin:∀{av:AV} {v:Value},((resAV P st rv).bind fun vs=>some (av::vs))=some avs→(loadVar t ⟨(ι g).blk,off,none⟩).run P w= .ok v w→RV ι Fz w av v→
     ∃vs:List Value,((ResultVar.cell x t::rv).mapM (resG a.tmps)).run P w= .ok vs w∧RVs ι Fz w avs vs:=by
     intro av v h hr hrv
     obtain⟨l,hl,h⟩:=Option.bind_eq_some_iff.1 h
     simp only[Option.some.injEq]at h
     subst h
     obtain⟨vs,e1,e2⟩:=resAV_of b rv l hl
     refine⟨v::vs, ?_,by simp only[RVs];exact⟨_,_,rfl,hrv,e2⟩⟩
     have hg:(resG a.tmps (.cell x t)).run P w= .ok v w:=by simp[resG,hxe,asAddr,hr]
     rw[List.mapM_cons]
     simp only[Sem.run_bind,hg,Result.andThen_ok]
     rw[e1];rfl
    cases ha:aggIs P t true with
    |true=>
     rw[ha,cond_true]at h
     obtain⟨i,hi,h⟩:=sizeK_of h
     cases hc:(Nat.ble (off+i.size) cs.length&&aliveL ((cs.drop off).take i.size))with
     |false=>rw[hc]at h;cases h
     |true=>
      rw[hc,cond_true]at h
      simp only[Bool.and_eq_true]at hc
      have hle:=Nat.le_of_ble_eq_true hc.1
      have hlen:=RVs_len hcs
      refine fin h (v:= .agg ((us.drop off).take i.size).toArray) ?_ ?_
      ·have:=run_loadCells_list (P:=P) w ⟨(ι g).blk,off,none⟩ ((us.drop off).take i.size) (fun j v hj=>by
        rw[Addr.add_lit,box_cell hh]
        rw[List.getElem?_take]at hj
        split at hj
        ·rw[List.getElem?_drop]at hj
         rw[List.getElem?_append_left (List.getElem?_eq_some_iff.1 hj).1]
         exact hj
        ·cases hj)
       rw[show((us.drop off).take i.size).length=i.size by rw[List.length_take,List.length_drop];omega]at this
       simp[loadVar,run_agg ha,run_size hi,this]
      ·simp only[RV]
       exact⟨_,rfl,fun u hu=>h1 u (List.mem_of_mem_drop (List.mem_of_mem_take hu)),RVs_take _ (RVs_drop _ hcs)⟩
    |false=>
     rw[ha,cond_false]at h
     cases ha':aggIs P t false with
     |false=>rw[ha']at h;cases h
     |true=>
      rw[ha',cond_true]at h
      split at h
      ·rename_i v hv'
       obtain⟨u,hu,hru⟩:=RVs_at hcs hv'
       refine fin h (v:=u) ?_ hru
       have:=box_cell hh off
       rw[List.getElem?_append_left (List.getElem?_eq_some_iff.1 hu).1,hu]at this
       simp[loadVar,run_agg ha',this]
      ·cases h
   ·cases h
  ·cases h
theorem run_mapM_toArray{α β:Type}{g:α→Sem β}(xs:Array α){l:List β}(h:(xs.toList.mapM g).run P w= .ok l w):(xs.mapM g).run P w= .ok l.toArray w:=by
 rw[←Array.toList_mapM]at h
 simp only[Sem.run_map]at h
 cases hr:(xs.mapM g).run P w with
 |halt x y=>rw[hr]at h;simp at h
 |ok a w'=>
  rw[hr]at h
  simp only[Result.andThen_ok,Result.ok.injEq]at h
  obtain⟨e,rfl⟩:=h
  rw[←e]
theorem resD_of{Fz':Nat→Prop}(hrb:∀h,RB ι Fz w h (getH H h))(hf:∀b,Fz b→Fz' b)(hb:∀h,(getH H h).isArr→(ι h).virt=false→Fz' (ι h).blk):
 ∀(rs:List Kd) (avs:List AV) (y:HR rs) (vs:List Value),resD H rs avs=some y→RVs ι Fz w avs vs→RVs ι0 Fz' w (resL rs y) vs
 |[],[],y,vs,_,hr=>by simpa only[resL,RVs]using hr
 |[],_::_,_,_,h,_=>by simp[resD]at h
 |[κ],[],_,_,h,_=>by simp[resD]at h
 |[κ],_::_::_,_,_,h,_=>by simp[resD]at h
 |[κ],[v],y,vs,h,hr=>by
  simp only[resD]at h
  simp only[RVs]at hr
  obtain⟨u,r,rfl,h1,rfl⟩:=hr
  simp only[resL,RVs]
  exact⟨u,[],rfl,argD_of hrb hf h h1 (fun h _=>hb h),rfl⟩
 |κ::κ'::rs,[],_,_,h,_=>by simp[resD]at h
 |κ::κ'::rs,v::avs,y,vs,h,hr=>by
  simp only[resD]at h
  obtain⟨x,hx,h⟩:=Option.bind_eq_some_iff.1 h
  obtain⟨z,hz,h⟩:=Option.bind_eq_some_iff.1 h
  simp only[Option.some.injEq]at h
  subst h
  simp only[RVs]at hr
  obtain⟨u,r,rfl,h1,h2⟩:=hr
  simp only[resL,RVs]
  exact⟨u,r,rfl,argD_of hrb hf hx h1 (fun h _=>hb h),resD_of hrb hf hb (κ'::rs) avs z r hz h2⟩
theorem resV_val{Fz':Nat→Prop}{rs:List Kd}{y:HR rs}{vs:List Value}(h:RVs ι0 Fz' w (resL rs y) vs):RV ι0 Fz' w (resV rs y) (if hh:vs.length=1 then vs[0]else .tuple vs.toArray):=by
 have hlen:=RVs_len h
 unfold resV
 generalize resL rs y=l at h hlen
 match l with
 |[]=>
  simp only[List.length_nil]at hlen
  rw[dif_neg (by omega)]
  simp only[RV]
  exact⟨vs,rfl,h⟩
 |[a]=>
  simp only[RVs]at h
  obtain⟨v,r,rfl,h1,rfl⟩:=h
  simpa using h1
 |a::b::l=>
  simp only[List.length_cons]at hlen
  rw[dif_neg (by omega)]
  simp only[RV]
  exact⟨vs,rfl,h⟩
theorem leaves_of{fn:Func}{Rp:Ending→World→Prop}{idle:List FuncId}(hI:∀f∈idle,Idle P f){tmps:Array Value}(hend:∃v,(results fn tmps).run P w= .ok v w∧Rp (.returned v) w):
 ∀(l:List AV) (ds:List Deferred),idleDf idle l=true→RD ι Fz w l ds→Leaves P fn tmps Rp ds .returning w
 |[],ds,_,h=>by
  simp only[RD]at h
  subst h
  exact hend
 |v::l,ds,hi,h=>by
  simp only[RD]at h
  obtain⟨f,caps,vs,s,rfl,rfl,h1,h2⟩:=h
  simp only[idleDf,Bool.and_eq_true,List.any_eq_true]at hi
  obtain⟨⟨⟨g,hg,hgf⟩,_⟩,hi⟩:=hi
  have e:=Nat.eq_of_beq_eq_true hgf
  subst e
  have hid:=hI g hg
  refine leaves_cons (f:=g) (args:=vs) (by simp) ?_ ?_
  ·have:=hid.enters (#[]++vs) w
   simpa[invoke]using this
  ·have:=hid.does vs.toList w
   simp only[Array.toArray_toList]at this
   refine this.mono ?_
   rintro e u w' ⟨⟨v,e1⟩,e2,e3⟩
   subst e1
   subst e2
   rw[e3]
   exact leaves_of hI hend l s hi h2
theorem Con.sound_of {c : Con} {fn : Func} {E : Env} {idle : List FuncId} (hf : E.P.funcs[c.fid]? = some fn) (hname : (fn.name == "runtime.NumGoroutine") = false) (hbody : fn.body.isNone = false)
 (hΓ:EnvOk E E.gl) (hI:∀f∈idle,Idle E.P f) (h:∀x y,c.fn x=some y→evF E idle fn c.ps c.rs x=some y):c.Sound E.P E.gl:=by
 intro w Fz x vals y hfz hgl hra hy
 have hev:=h x y hy
 unfold evF at hev
 split at hev
 ·rename_i code hcode
  cases hc:(codeB fn.ntmps code&&Nat.ble c.ps.length fn.ntmps)with
  |false=>rw[hc]at hev;cases hev
  |true=>
   rw[hc,cond_true]at hev
   simp only[Bool.and_eq_true]at hc
   have hn:=Nat.le_of_ble_eq_true hc.2
   have hb:=enter_behind (nt:=fn.ntmps) hfz hgl hra hn
   obtain⟨st1,ι1,F1,hev,b1⟩:=norm_of hev hb
   refine .inr ⟨?_,calls_of_wp_defers hf hcode ?_⟩
   ·have hn' : ¬ fn.name = "runtime.NumGoroutine" := by simpa using hname
    have hb':¬fn.body=none:=by rw[hcode];simp
    simp[callFunc,hf,hn',hb']
   have hl:=RA_len _ _ _ hra
   refine evC_of hΓ code hc.1 hev (by simp;omega) b1 ?_
   intro e st a w' ι' Fz' hk hnt b
   have hend:(∃v,(results fn a.tmps).run E.P w'= .ok v w'∧(∃v',Ending.returned v=Ending.returned v'∧Below w.heap.size w w'∧∃Fz':Nat→Prop,(∀b,Fz b→Fz' b)∧(∀b,Fz' b→Fz b∨w.heap.size≤b)∧(∀b,Fz' b→b<w'.heap.size)∧RV ι0 Fz' w' (resV c.rs y) v'))∧idleDf idle st.df=true:=by
    have hk':(bif idleDf idle st.df then(resAV E.P st fn.results.toList).bind fun vs=>resD st.H c.rs vs else none)=some y:=by
     cases e with
     |exit id=>simp[kEnd]at hk
     |normal=>exact hk
     |ret=>exact hk
    cases hid:idleDf idle st.df with
    |false=>rw[hid]at hk';cases hk'
    |true=>
     rw[hid,cond_true]at hk'
     obtain⟨avs,h1,h2⟩:=Option.bind_eq_some_iff.1 hk'
     obtain⟨vs,h3,h4⟩:=resAV_of b fn.results.toList avs h1
     have m:=b.2.2
     have h5:=resD_of (Fz':=lent ι' Fz' st.H) m.rb (fun b hb=> .inl hb) (fun h hl hv=> .inr ⟨h,isArr_live hl,hv,rfl⟩) c.rs avs y vs h2 h4
     refine⟨⟨_, ?_,_,rfl,m.below.below,lent ι' Fz' st.H,fun b hb=> .inl (m.fz0 b hb), ?_,lent_lt m,resV_val h5⟩,rfl⟩
     ·rw[results_eq]
      have e1:=run_mapM_toArray fn.results h3
      simp only[Sem.run_bind]
      rw[e1]
      simp only[Result.andThen_ok,Sem.run_pure,List.size_toArray]
      congr 1
     ·rintro b (hb|⟨h,hl,hv,rfl⟩)
      ·exact m.fzn b hb
      ·exact .inr (m.sep h hl hv).1
   obtain⟨hend,hid⟩:=hend
   cases e with
   |exit id=>simp[kEnd]at hk
   |normal=>exact leaves_of hI hend st.df a.defers hid b.2.1
   |ret=>exact leaves_of hI hend st.df a.defers hid b.2.1
 ·cases hev
theorem Con.Sound.law {c : Con} {fn : Func} {gl : List Gl} (s : c.Sound P gl) (hf : P.funcs[c.fid]? = some fn) (hname : (fn.name == "runtime.NumGoroutine") = false) (hbody : fn.body.isSome = true) (hrs : c.rs = [.bool]) {x : HL c.ps} {vals : List Value}
 (hfz:∀b,Fz b→b<w.heap.size) (hgl:GOK gl Fz w) (hra:RA Fz w c.ps x vals) {y:HR c.rs} (hy:c.fn x=some y) (hv:∀v,RV ι0 Fz w (resV c.rs y) v→v= .bool true):
 Calls P c.fid vals.toArray w fun e w'=>e= .returned (.bool true)∧Below w.heap.size w w':=by
 have hn' : ¬ fn.name = "runtime.NumGoroutine" := by simpa using hname
 have hb':¬fn.body=none:=by intro h;rw[h]at hbody;cases hbody
 have hp:c.rs.all Kd.plain=true:=by rw[hrs];rfl
 rcases s w Fz x vals y hfz hgl hra hy with⟨v,w',h1,h2⟩|⟨h1,h2⟩
 ·simp[callFunc,hf,hn',hb']at h1
 ·refine h2.mono ?_
  rintro e w' ⟨v,e1,hbel,Fz',_,_,_,hr⟩
  subst e1
  exact⟨by rw[hv v (resV_plain hp hr)],hbel⟩
end
end Go.Av
namespace Go.Av
open Go Go.RowKit
def Kd.bytes:Kd→Nat
 | .int .i64=>8
 | .int _=>1
 | .float=>8
 | .bool=>1
 | .str=>16
 | .list _=>24
 | .unit=>0
 | .pair a b=>a.bytes+b.bytes
 | .geo=>120
 | .any=>8
 | .nl _=>24
def fits(n b:Nat):Prop:=n≤maxLen∧n*b≤140737488351232
mutual
def wfG:Geo→Prop
 | .mk kd ly sr flat ends endss kids=>(IntKind.i64.min≤kd∧kd≤IntKind.i64.max)∧(IntKind.i64.min≤ly∧ly≤IntKind.i64.max)∧(IntKind.i64.min≤sr∧sr≤IntKind.i64.max)∧
  (fits flat.length 8∧∀x∈flat,x<2^64)∧(fits ends.length 8∧∀x∈ends,IntKind.i64.min≤x∧x≤IntKind.i64.max)∧
  (fits endss.length 24∧∀l∈endss,fits l.length 8∧∀x∈l,IntKind.i64.min≤x∧x≤IntKind.i64.max)∧fits kids.length 120∧wfGs kids
def wfGs:List Geo→Prop
 |[]=>True
 |g::r=>wfG g∧wfGs r
end
def wf:(κ:Kd)→Den κ→Prop
 | .int k,n=>k.min≤n∧n≤k.max
 | .float,b=>b<2^64
 | .bool,_=>True
 | .str,s=>s.size≤maxLen∧s.size≤140737488351232
 | .list e,xs=>fits xs.length e.bytes∧∀x∈xs,wf e x
 | .unit,_=>True
 | .pair a b,x=>wf a x.1∧wf b x.2
 | .geo,g=>wfG g
 | .any,_=>True
 | .nl e,o=>match o with|none=>True|some xs=>fits xs.length e.bytes∧∀x∈xs,wf e x
theorem wfGs_mem:∀{l:List Geo},(∀g∈l,wfG g)→wfGs l
 |[],_=>by simp only[wfGs]
 |g::r,h=>by simp only[wfGs];exact⟨h g (by simp),wfGs_mem fun x hx=>h x (by simp[hx])⟩
theorem wfGs_of:∀{l:List Geo},wfGs l→∀g∈l,wfG g
 |[],_,g,hg=>by simp at hg
 |x::r,h,g,hg=>by
  simp only[wfGs]at h
  rcases List.mem_cons.1 hg with rfl|hg
  ·exact h.1
  ·exact wfGs_of h.2 g hg
def ktF(P:Program)(kt:TypeId→Kd→Bool):List Field→Kd→Nat→Bool
 |[], .unit,_=>true
 |f::fs, .pair a b,off=>Nat.beq f.offset off&&Nat.beq (P.cellsOf f.type) a.size&&kt f.type a&&ktF P kt fs b (off+a.size)
 |_,_,_=>false
def isI64(P:Program)(t:TypeId):Bool:=match P.underlying t with|some (.int .i64)=>true|_=>false
def sliceOf(P:Program)(t:TypeId)(p:TypeId→Bool):Bool:=match P.underlying t with|some (.slice e)=>p e|_=>false
def isF64(P:Program)(t:TypeId):Bool:=match P.underlying t with|some (.float .f64)=>true|_=>false
def fld(fs:List Field)(i:Nat)(p:TypeId→Bool)(P:Program):Bool:=match fs[i]? with|some f=>Nat.beq f.offset i&&Nat.beq (P.cellsOf f.type) 1&&p f.type|none=>false
def geoB(P:Program)(t:TypeId)(fs:List Field):Bool:=
 Nat.beq fs.length 7&&Nat.beq (P.cellsOf t) 7&&fld fs 0 (isI64 P) P&&fld fs 1 (isI64 P) P&&fld fs 2 (isI64 P) P&&
 fld fs 3 (fun u=>sliceOf P u fun e=>isF64 P e&&Nat.beq (P.cellsOf e) 1&&Nat.ble 8 (P.bytesOf e)) P&&fld fs 4 (fun u=>sliceOf P u fun e=>isI64 P e&&Nat.beq (P.cellsOf e) 1&&Nat.ble 8 (P.bytesOf e)) P&&
 fld fs 5 (fun u=>sliceOf P u fun e=>(Nat.beq (P.cellsOf e) 1&&Nat.ble 24 (P.bytesOf e))&&sliceOf P e fun e'=>isI64 P e'&&Nat.beq (P.cellsOf e') 1&&Nat.ble 8 (P.bytesOf e')) P&&
 fld fs 6 (fun u=>sliceOf P u fun e=>Nat.beq e t&&Nat.ble 120 (P.bytesOf e)) P
def ktA(P:Program)(rec:TypeId→Kd→Bool)(e:TypeId):Nat→Kd→Bool
 |0, .unit=>true
 |m+1, .pair a b=>rec e a&&Nat.beq (P.cellsOf e) a.size&&ktA P rec e m b
 |_,_=>false
def ktB(P:Program):Nat→TypeId→Kd→Bool
 |0,_,_=>false
 |n+1,t,κ=>
  match P.underlying t,κ with
  |some .bool, .bool=>true
  |some (.int k), .int k'=>decide (k=k')
  |some (.float .f64), .float=>true
  |some .string, .str=>true
  |some (.slice e), .list κ=>ktB P n e κ&&Nat.beq (P.cellsOf e) κ.size&&Nat.ble 1 κ.size&&Nat.ble κ.bytes (P.bytesOf e)
  |some (.slice e), .nl κ=>ktB P n e κ&&Nat.beq (P.cellsOf e) κ.size&&Nat.ble 1 κ.size&&Nat.ble κ.bytes (P.bytesOf e)
  |some (.struct fs), .geo=>geoB P t fs.toList
  |some (.struct fs), .pair a b=>Nat.beq (P.cellsOf t) (Kd.pair a b).size&&ktF P (ktB P n) fs.toList (.pair a b) 0
  |some (.struct fs), .unit=>Nat.beq (P.cellsOf t) 0&&ktF P (ktB P n) fs.toList .unit 0
  |some (.array m e), .pair a b=>Nat.beq (P.cellsOf t) (Kd.pair a b).size&&ktA P (ktB P n) e m (.pair a b)
  |_,_=>false
theorem mapM_at{α β:Type}{f:α→Option β}:∀{l:List α} {ys:List β},l.mapM f=some ys→ys.length=l.length∧∀(i:Nat) (x:α),l[i]?=some x→∃y,ys[i]?=some y∧f x=some y
 |[],ys,h=>by simp at h;subst h;exact⟨rfl,fun i x h=>by simp at h⟩
 |a::l,ys,h=>by
  rw[List.mapM_cons]at h
  simp only[Option.bind_eq_bind,Option.bind_eq_some_iff,Option.pure_def,Option.some.injEq]at h
  obtain⟨y,hy,zs,hz,rfl⟩:=h
  obtain⟨h1,h2⟩:=mapM_at hz
  refine⟨by simp[h1],fun i x hx=> ?_⟩
  cases i with
  |zero=>simp only[List.getElem?_cons_zero,Option.some.injEq]at hx;subst hx;exact⟨y,rfl,hy⟩
  |succ i=>exact h2 i x (by simpa using hx)
section
variable {H:Type} {enc:TypeId×Value→H} {P:Program} {w:World} {spare:Nat→Bool} {held:Bool}
def Old(w:World):Nat→Prop:=fun b=>b<w.heap.size
theorem cells_lie{a:Addr}{n:Nat}{es:List Value}(h:w.cells? 0 a n=some es):es.length=n∧(1≤n→a.spot=none∧a.block<w.heap.size∧Lie w es a.block a.off):=by
 unfold World.cells? at h
 rw[if_pos (Nat.zero_le _)]at h
 obtain⟨h1,h2⟩:=mapM_at h
 rw[List.length_range]at h1
 refine⟨h1,fun hn=> ?_⟩
 obtain⟨y,hy,hc⟩:=h2 0 0 (List.getElem?_range (by omega))
 rw[Addr.add_zero']at hc
 have hs:a.spot=none:=by
  unfold World.cell? at hc
  split at hc
  ·cases hsp:a.spot with
   |none=>rfl
   |some x=>simp[hsp]at hc
  ·cases hc
 refine⟨hs,World.block_lt_of_cell? w a hc,fun j u hj=> ?_⟩
 have hlt:=(List.getElem?_eq_some_iff.1 hj).1
 obtain⟨y,hy,hc⟩:=h2 j j (List.getElem?_range (by omega))
 rw[hj]at hy
 simp only[Option.some.injEq]at hy
 subst hy
 have:a.add j=⟨a.block,a.off+j,none⟩:=by
  obtain⟨b,o,s⟩:=a
  simp only at hs
  subst hs
  exact Addr.add_lit b o j
 rw[←this];exact hc
theorem weightsAll_mem{e:TypeId}:∀{l:List (DataW H)} {d:DataW H} {n:Nat},d∈l→n∈d.weights P e→n∈DataW.weightsAll P e l
 |x::l,d,n,hd,hn=>by
  simp only[DataW.weightsAll,List.mem_append]
  rcases List.mem_cons.1 hd with rfl|hd
  ·exact .inl hn
  ·exact .inr (weightsAll_mem hd hn)
 |[],_,_,hd,_=>by simp at hd
theorem trod_slice{fuel:Nat}{t e:TypeId}{v:Value}{d:DataW H}{ps:List MemPlace}(hu:P.underlying t=some (.slice e))(h:DataW.trod enc P w 0 spare held (fuel+1) t [v]=some (d,ps))
 (hz:∀n∈d.weights P t,n≤reachBytes):
 v= .slice none 0 0∨∃a len cap,v= .slice (some a) len cap∧len≤cap∧cap≤maxLen∧len*P.bytesOf e≤reachBytes∧
  ∀i<len,∃cs d' p',w.cells? 0 (a.add (i*P.cellsOf e)) (P.cellsOf e)=some cs∧DataW.trod enc P w 0 spare held fuel e cs=some (d',p')∧∀n∈d'.weights P e,n≤reachBytes:=by
 cases v with
 |slice a len cap=>
  cases a with
  |none=>
   left
   cases len<;>cases cap<;>simp[DataW.trod,hu]at h
   rfl
  |some a=>
   right
   simp only[DataW.trod,hu]at h
   split at h
   ·rename_i hc
    obtain⟨elems,he,h⟩:=Option.bind_eq_some_iff.1 h
    obtain⟨rest,hr,h⟩:=Option.map_eq_some_iff.1 h
    simp only[Prod.mk.injEq]at h
    obtain⟨rfl,_⟩:=h
    obtain⟨h1,h2⟩:=mapM_at he
    rw[List.length_range]at h1
    simp only[DataW.weights,hu,List.length_map,h1]at hz
    have hz0:=hz _ (List.mem_cons_self)
    refine⟨a,len,cap,rfl,hc.2.1,hc.2.2,Nat.le_trans (Nat.mul_le_mul_right _ (Nat.le_add_right _ _)) hz0,fun i hi=> ?_⟩
    obtain⟨y,hy1,hy⟩:=h2 i i (List.getElem?_range (by omega))
    obtain⟨cs,h3,h4⟩:=Option.bind_eq_some_iff.1 hy
    exact⟨cs,y.1,y.2,h3,h4,fun n hn=>hz n (List.mem_cons_of_mem _ (List.mem_append_left _ (weightsAll_mem (List.mem_map.2 ⟨y,List.mem_of_getElem? hy1,rfl⟩) hn)))⟩
   ·cases h
 |_=>simp[DataW.trod,hu]at h
theorem choose_list{α:Type}{p:Nat→α→Prop}:∀(n:Nat),(∀i<n,∃x,p i x)→∃xs:List α,xs.length=n∧∀i x,xs[i]?=some x→p i x
 |0,_=>⟨[],rfl,fun i x h=>by simp at h⟩
 |n+1,h=>by
  obtain⟨xs,hl,hx⟩:=choose_list n (fun i hi=>h i (by omega))
  obtain⟨y,hy⟩:=h n (by omega)
  refine⟨xs++[y],by simp[hl],fun i x hi=> ?_⟩
  rcases Nat.lt_or_ge i n with hlt|hge
  ·rw[List.getElem?_append_left (by omega)]at hi;exact hx i x hi
  ·rw[List.getElem?_append_right (by omega)]at hi
   have:i-xs.length=0:=by
    rcases Nat.eq_zero_or_pos (i-xs.length)with h|h
    ·exact h
    ·rw[List.getElem?_eq_none (by simp;omega)]at hi;cases hi
   rw[this]at hi
   simp only[List.getElem?_cons_zero,Option.some.injEq]at hi
   subst hi
   have:i=n:=by omega
   rw[this];exact hy
theorem slice_RLf{α:Type}{E:α→List Value→Prop}{W:α→Prop}{sz bs fuel:Nat}{e:TypeId}(hs:P.cellsOf e=sz)(h1:1≤sz)(hb:bs≤P.bytesOf e)
 (ih:∀cs d ps,DataW.trod enc P w 0 spare held fuel e cs=some (d,ps)→(∀n∈d.weights P e,n≤reachBytes)→∃x:α,E x cs∧W x) {t:TypeId} {v:Value} {d:DataW H} {ps:List MemPlace} (hu:P.underlying t=some (.slice e))
 (h:DataW.trod enc P w 0 spare held (fuel+1) t [v]=some (d,ps)) (hz:∀n∈d.weights P t,n≤reachBytes):∃xs:List α,RLf (Old w) w E sz xs v∧fits xs.length bs∧∀x∈xs,W x:=by
 rcases trod_slice hu h hz with rfl|⟨a,len,cap,rfl,hlc,hcm,hbl,hel⟩
 ·exact⟨[],⟨none,0,rfl,by simp, .inl rfl⟩,⟨by simp,by simp⟩,by simp⟩
 ·obtain⟨xs,hl,hx⟩:=choose_list (p:=fun i (x:α)=>∃cs,w.cells? 0 (a.add (i*sz)) sz=some cs∧E x cs∧W x) len (fun i hi=>by
   obtain⟨cs,d',p',h3,h4,hz'⟩:=hel i hi
   rw[hs]at h3
   obtain⟨x,h5,h6⟩:=ih cs d' p' h4 hz'
   exact⟨x,cs,h3,h5,h6⟩)
  have hr:reachBytes=140737488351232:=by decide
  refine⟨xs,⟨some a,cap,by rw[hl],by omega, ?_⟩,⟨by omega,by rw[hl,←hr];exact Nat.le_trans (Nat.mul_le_mul_left _ hb) hbl⟩,fun x hxm=> ?_⟩
  ·rcases Nat.eq_zero_or_pos len with h0|h0
   ·left;exact List.eq_nil_of_length_eq_zero (by omega)
   ·right
    obtain⟨x0,hx0⟩:∃x,xs[0]?=some x:=⟨xs[0],List.getElem?_eq_getElem (by omega)⟩
    obtain⟨cs,hc,_⟩:=hx 0 x0 hx0
    rw[Nat.zero_mul,Addr.add_zero']at hc
    obtain⟨hsp,hbl,_⟩:=(cells_lie hc).2 h1
    obtain⟨b,off,s⟩:=a
    simp only at hsp hbl
    subst hsp
    refine⟨b,off,rfl,hbl,fun i x hix=> ?_⟩
    obtain⟨cs,hc,hE,_⟩:=hx i x hix
    rw[Addr.add_lit]at hc
    obtain⟨h2,h3⟩:=cells_lie hc
    exact⟨cs,hE,h2,(h3 h1).2.2⟩
  ·obtain⟨i,hi⟩:=List.mem_iff_getElem?.1 hxm
   obtain⟨_,_,_,h⟩:=hx i x hi
   exact h
theorem lit_wf{k:IntKind}{n:Int}(h:(Lit.int k n).wf=true):k.min≤n∧n≤k.max:=by
 simpa[Lit.wf]using h
theorem trod_int{fuel:Nat}{t:TypeId}{k:IntKind}{cs:List Value}{d:DataW H}{ps:List MemPlace}(hu:P.underlying t=some (.int k))(h:DataW.trod enc P w 0 spare held (fuel+1) t cs=some (d,ps)):
 ∃n:Int,cs=[.int k n]∧k.min≤n∧n≤k.max:=by
 match cs,h with
 |[.int k' n],h=>
  simp only[DataW.trod,hu]at h
  split at h
  ·rename_i hc
   rw[hc.1]
   exact⟨n,rfl,lit_wf hc.2⟩
  ·cases h
 |[],h=>simp[DataW.trod,hu]at h
 |[.bool _],h=>simp[DataW.trod,hu]at h
 |[.float _ _],h=>simp[DataW.trod,hu]at h
 |[.complex _ _ _],h=>simp[DataW.trod,hu]at h
 |[.string _],h=>simp[DataW.trod,hu]at h
 |[.pointer _],h=>simp[DataW.trod,hu]at h
 |[.slice _ _ _],h=>simp[DataW.trod,hu]at h
 |[.map _],h=>simp[DataW.trod,hu]at h
 |[.chan _],h=>simp[DataW.trod,hu]at h
 |[.func _ _ _],h=>simp[DataW.trod,hu]at h
 |[.nilFunc],h=>simp[DataW.trod,hu]at h
 |[.iface _ _],h=>simp[DataW.trod,hu]at h
 |[.nilIface],h=>simp[DataW.trod,hu]at h
 |[.agg _],h=>simp[DataW.trod,hu]at h
 |[.tuple _],h=>simp[DataW.trod,hu]at h
 |_::_::_,h=>simp[DataW.trod,hu]at h
theorem trod_float{fuel:Nat}{t:TypeId}{cs:List Value}{d:DataW H}{ps:List MemPlace}(hu:P.underlying t=some (.float .f64))(h:DataW.trod enc P w 0 spare held (fuel+1) t cs=some (d,ps)):
 ∃n:Nat,cs=[.float .f64 n]∧n<2^64:=by
 match cs,h with
 |[.float k' n],h=>
  simp only[DataW.trod,hu]at h
  split at h
  ·rename_i hc
   rw[hc.1]
   exact⟨n,rfl,by have:=hc.2;simpa[Lit.wf]using this⟩
  ·cases h
 |[],h=>simp[DataW.trod,hu]at h
 |[.bool _],h=>simp[DataW.trod,hu]at h
 |[.int _ _],h=>simp[DataW.trod,hu]at h
 |[.complex _ _ _],h=>simp[DataW.trod,hu]at h
 |[.string _],h=>simp[DataW.trod,hu]at h
 |[.pointer _],h=>simp[DataW.trod,hu]at h
 |[.slice _ _ _],h=>simp[DataW.trod,hu]at h
 |[.map _],h=>simp[DataW.trod,hu]at h
 |[.chan _],h=>simp[DataW.trod,hu]at h
 |[.func _ _ _],h=>simp[DataW.trod,hu]at h
 |[.nilFunc],h=>simp[DataW.trod,hu]at h
 |[.iface _ _],h=>simp[DataW.trod,hu]at h
 |[.nilIface],h=>simp[DataW.trod,hu]at h
 |[.agg _],h=>simp[DataW.trod,hu]at h
 |[.tuple _],h=>simp[DataW.trod,hu]at h
 |_::_::_,h=>simp[DataW.trod,hu]at h
theorem trod_one{fuel:Nat}{t e:TypeId}{cs:List Value}{d:DataW H}{ps:List MemPlace}(hu:P.underlying t=some (.slice e))(h:DataW.trod enc P w 0 spare held (fuel+1) t cs=some (d,ps)):∃v,cs=[v]:=by
 match cs,h with
 |[v],_=>exact⟨v,rfl⟩
 |[],h=>simp[DataW.trod,hu]at h
 |_::_::_,h=>simp[DataW.trod,hu]at h
theorem trod_structF{fuel:Nat}{t:TypeId}{fs:Array Field}{cs:List Value}{d:DataW H}{ps:List MemPlace}(hu:P.underlying t=some (.struct fs))(h:DataW.trod enc P w 0 spare held (fuel+1) t cs=some (d,ps))
 (hz:∀n∈d.weights P t,n≤reachBytes):
 cs.length=P.cellsOf t∧∀(i:Nat) (f:Field),fs.toList[i]?=some f→∃d' p',DataW.trod enc P w 0 spare held fuel f.type ((cs.drop f.offset).take (P.cellsOf f.type))=some (d',p')∧∀n∈d'.weights P f.type,n≤reachBytes:=by
 obtain⟨xs,n,hn,hd,h1,h2,h3⟩:=DataW.trod_struct hu h
 have e:n=fuel:=by omega
 subst e
 refine⟨h1,fun i f hf=> ?_⟩
 have hf':fs[i]?=some f:=by simpa using hf
 have hlt:i<fs.size:=(Array.getElem?_eq_some_iff.1 hf').1
 have h4:=h3 i f hf'
 rw[List.getElem?_eq_getElem (by omega)]at h4
 simp only[Prod.mk.injEq]at hd
 rw[hd.1]at hz
 simp only[DataW.weights,hu]at hz
 refine⟨_,_,h4,fun m hm=>hz m (DataW.weights_mem_each (j:=i) (t:=f.type) (d:=(xs[i]'(by omega)).1) ?_ ?_ m hm)⟩
 ·simp only[List.getElem?_map,hf,Option.map_some]
 ·rw[List.getElem?_map,List.getElem?_eq_getElem (by omega)];rfl
theorem trod_bool{fuel:Nat}{t:TypeId}{cs:List Value}{d:DataW H}{ps:List MemPlace}(hu:P.underlying t=some .bool)(h:DataW.trod enc P w 0 spare held (fuel+1) t cs=some (d,ps)):∃b:Bool,cs=[.bool b]:=by
 match cs,h with
 |[.bool b],_=>exact⟨b,rfl⟩
 |[],h=>simp[DataW.trod,hu]at h
 |[.int _ _],h=>simp[DataW.trod,hu]at h
 |[.float _ _],h=>simp[DataW.trod,hu]at h
 |[.complex _ _ _],h=>simp[DataW.trod,hu]at h
 |[.string _],h=>simp[DataW.trod,hu]at h
 |[.pointer _],h=>simp[DataW.trod,hu]at h
 |[.slice _ _ _],h=>simp[DataW.trod,hu]at h
 |[.map _],h=>simp[DataW.trod,hu]at h
 |[.chan _],h=>simp[DataW.trod,hu]at h
 |[.func _ _ _],h=>simp[DataW.trod,hu]at h
 |[.nilFunc],h=>simp[DataW.trod,hu]at h
 |[.iface _ _],h=>simp[DataW.trod,hu]at h
 |[.nilIface],h=>simp[DataW.trod,hu]at h
 |[.agg _],h=>simp[DataW.trod,hu]at h
 |[.tuple _],h=>simp[DataW.trod,hu]at h
 |_::_::_,h=>simp[DataW.trod,hu]at h
theorem trod_str{fuel:Nat}{t:TypeId}{cs:List Value}{d:DataW H}{ps:List MemPlace}(hu:P.underlying t=some .string)(h:DataW.trod enc P w 0 spare held (fuel+1) t cs=some (d,ps))(hz:∀n∈d.weights P t,n≤reachBytes):∃s:ByteArray,cs=[.string s]∧s.size≤maxLen∧s.size≤140737488351232:=by
 match cs,h with
 |[.string s],h=>
  simp only[DataW.trod,hu]at h
  split at h
  ·rename_i hc
   simp only[Option.some.injEq,Prod.mk.injEq]at h
   rw[←h.1]at hz
   simp only[DataW.weights,List.mem_singleton,forall_eq]at hz
   have hr:reachBytes=140737488351232:=by decide
   exact⟨s,rfl,hc,by rw[←hr];simpa using hz⟩
  ·cases h
 |[],h=>simp[DataW.trod,hu]at h
 |[.int _ _],h=>simp[DataW.trod,hu]at h
 |[.float _ _],h=>simp[DataW.trod,hu]at h
 |[.complex _ _ _],h=>simp[DataW.trod,hu]at h
 |[.bool _],h=>simp[DataW.trod,hu]at h
 |[.pointer _],h=>simp[DataW.trod,hu]at h
 |[.slice _ _ _],h=>simp[DataW.trod,hu]at h
 |[.map _],h=>simp[DataW.trod,hu]at h
 |[.chan _],h=>simp[DataW.trod,hu]at h
 |[.func _ _ _],h=>simp[DataW.trod,hu]at h
 |[.nilFunc],h=>simp[DataW.trod,hu]at h
 |[.iface _ _],h=>simp[DataW.trod,hu]at h
 |[.nilIface],h=>simp[DataW.trod,hu]at h
 |[.agg _],h=>simp[DataW.trod,hu]at h
 |[.tuple _],h=>simp[DataW.trod,hu]at h
 |_::_::_,h=>simp[DataW.trod,hu]at h
theorem isI64_of{t:TypeId}(h:isI64 P t=true):P.underlying t=some (.int .i64):=by
 unfold isI64 at h;split at h<;>first|assumption|cases h
theorem isF64_of{t:TypeId}(h:isF64 P t=true):P.underlying t=some (.float .f64):=by
 unfold isF64 at h;split at h<;>first|assumption|cases h
theorem sliceOf_of{t:TypeId}{p:TypeId→Bool}(h:sliceOf P t p=true):∃e,P.underlying t=some (.slice e)∧p e=true:=by
 unfold sliceOf at h
 split at h
 ·rename_i e he;exact⟨e,he,h⟩
 ·cases h
theorem fld_of{fs:List Field}{i:Nat}{p:TypeId→Bool}(h:fld fs i p P=true):∃f,fs[i]?=some f∧f.offset=i∧P.cellsOf f.type=1∧p f.type=true:=by
 unfold fld at h
 split at h
 ·rename_i f hf
  simp only[Bool.and_eq_true]at h
  exact⟨f,hf,Nat.eq_of_beq_eq_true h.1.1,Nat.eq_of_beq_eq_true h.1.2,h.2⟩
 ·cases h
theorem kd_of:∀(fuel:Nat) (n:Nat) (t:TypeId) (κ:Kd) (cs:List Value) (d:DataW H) (ps:List MemPlace),DataW.trod enc P w 0 spare held fuel t cs=some (d,ps)→(∀n∈d.weights P t,n≤reachBytes)→ktB P n t κ=true→
 ∃x:Den κ,RP (Old w) w κ x cs∧wf κ x:=by
 intro fuel
 induction fuel using Nat.strongRecOn with
 |_ fuel IH=>
  cases fuel with
  |zero=>intro n t κ cs d ps h;simp[DataW.trod]at h
  |succ fuel=>
  have ih:=IH fuel (by omega)
  intro n t κ cs d ps h hz hk
  cases n with
  |zero=>simp[ktB]at hk
  |succ n=>
   have agg:∀(fs:List Field) (κ:Kd) (off:Nat),(∀(i:Nat) (f:Field),fs[i]?=some f→∃d' p',DataW.trod enc P w 0 spare held fuel f.type ((cs.drop f.offset).take (P.cellsOf f.type))=some (d',p')∧∀n∈d'.weights P f.type,n≤reachBytes)→
    ktF P (ktB P n) fs κ off=true→off+κ.size=cs.length→∃x:Den κ,RP (Old w) w κ x (cs.drop off)∧wf κ x:=by
    intro fs
    induction fs with
    |nil=>
     intro κ off _ hf hl
     cases κ<;>first|(simp[ktF]at hf;done)|skip
     refine⟨(), ?_,trivial⟩
     simp only[RP]
     exact List.drop_eq_nil_of_le (by simp only[Kd.size]at hl;omega)
    |cons f fs ihf=>
     intro κ off hall hf hl
     cases κ with
     |pair a b=>
      simp only[ktF,Bool.and_eq_true]at hf
      obtain⟨⟨⟨h1,h2⟩,h3⟩,h4⟩:=hf
      have h1:=Nat.eq_of_beq_eq_true h1
      have h2:=Nat.eq_of_beq_eq_true h2
      obtain⟨d',p',hd,hz'⟩:=hall 0 f rfl
      obtain⟨x,hx,wx⟩:=ih n f.type a _ d' p' hd hz' h3
      obtain⟨y,hy,wy⟩:=ihf b (off+a.size) (fun i g hg=>hall (i+1) g (by simpa using hg)) h4 (by simp only[Kd.size]at hl;omega)
      refine⟨(x,y), ?_,wx,wy⟩
      simp only[RP]
      refine⟨_,_, ?_,hx,hy⟩
      rw[h1,h2]
      conv=>lhs;rw[←List.take_append_drop a.size (cs.drop off)]
      rw[List.drop_drop]
     |_=>simp[ktF]at hf
   unfold ktB at hk
   split at hk
   ·rename_i hu
    obtain⟨b,rfl⟩:=trod_bool hu h
    exact⟨b,rfl,trivial⟩
   ·rename_i k k' hu
    have e:=of_decide_eq_true hk
    subst e
    obtain⟨x,rfl,hw⟩:=trod_int hu h
    exact⟨x,rfl,hw⟩
   ·rename_i hu
    obtain⟨x,rfl,hw⟩:=trod_float hu h
    exact⟨x,rfl,hw⟩
   ·rename_i hu
    obtain⟨x,rfl,hw⟩:=trod_str hu h hz
    exact⟨x,rfl,hw⟩
   ·rename_i e κ' hu
    simp only[Bool.and_eq_true]at hk
    obtain⟨⟨⟨h1,h2⟩,h3⟩,h4⟩:=hk
    obtain⟨v,rfl⟩:=trod_one hu h
    obtain⟨xs,a1,a2,a3⟩:=slice_RLf (E:=RP (Old w) w κ') (W:=wf κ') (Nat.eq_of_beq_eq_true h2) (Nat.le_of_ble_eq_true h3) (Nat.le_of_ble_eq_true h4) (fun cs d ps hh hz=>ih n e κ' cs d ps hh hz h1) hu h hz
    exact⟨xs,⟨v,rfl,a1⟩,a2,a3⟩
   ·rename_i e κ' hu
    simp only[Bool.and_eq_true]at hk
    obtain⟨⟨⟨h1,h2⟩,h3⟩,h4⟩:=hk
    obtain⟨v,rfl⟩:=trod_one hu h
    obtain⟨xs,a1,a2,a3⟩:=slice_RLf (E:=RP (Old w) w κ') (W:=wf κ') (Nat.eq_of_beq_eq_true h2) (Nat.le_of_ble_eq_true h3) (Nat.le_of_ble_eq_true h4) (fun cs d ps hh hz=>ih n e κ' cs d ps hh hz h1) hu h hz
    rcases trod_slice hu h hz with rfl|⟨a,len,cap,rfl,_⟩
    ·exact⟨none,⟨_,rfl, .inl ⟨rfl,rfl⟩⟩,trivial⟩
    ·exact⟨some xs,⟨_,rfl, .inr ⟨xs,rfl,a1,a,len,cap,rfl⟩⟩,a2,a3⟩
   ·rename_i fs hu
    simp only[geoB,Bool.and_eq_true]at hk
    obtain⟨⟨⟨⟨⟨⟨⟨⟨hlen,hcs⟩,k0⟩,k1⟩,k2⟩,k3⟩,k4⟩,k5⟩,k6⟩:=hk
    obtain⟨hl,hall⟩:=trod_structF hu h hz
    rw[Nat.eq_of_beq_eq_true hcs]at hl
    obtain⟨f0,g0,o0,z0,u0⟩:=fld_of k0
    obtain⟨f1,g1,o1,z1,u1⟩:=fld_of k1
    obtain⟨f2,g2,o2,z2,u2⟩:=fld_of k2
    obtain⟨f3,g3,o3,z3,u3⟩:=fld_of k3
    obtain⟨f4,g4,o4,z4,u4⟩:=fld_of k4
    obtain⟨f5,g5,o5,z5,u5⟩:=fld_of k5
    obtain⟨f6,g6,o6,z6,u6⟩:=fld_of k6
    obtain⟨d0,p0,t0,z0'⟩:=hall 0 f0 g0
    obtain⟨d1,p1,t1,z1'⟩:=hall 1 f1 g1
    obtain⟨d2,p2,t2,z2'⟩:=hall 2 f2 g2
    obtain⟨d3,p3,t3,z3'⟩:=hall 3 f3 g3
    obtain⟨d4,p4,t4,z4'⟩:=hall 4 f4 g4
    obtain⟨d5,p5,t5,z5'⟩:=hall 5 f5 g5
    obtain⟨d6,p6,t6,z6'⟩:=hall 6 f6 g6
    rw[o0,z0]at t0
    rw[o1,z1]at t1
    rw[o2,z2]at t2
    rw[o3,z3]at t3
    rw[o4,z4]at t4
    rw[o5,z5]at t5
    rw[o6,z6]at t6
    match cs,hl,t0,t1,t2,t3,t4,t5,t6 with
    |[c0,c1,c2,c3,c4,c5,c6],_,t0,t1,t2,t3,t4,t5,t6=>
    simp only[List.drop_succ_cons,List.drop_zero,List.take_succ_cons,List.take_zero]at t0 t1 t2 t3 t4 t5 t6
    cases fuel with
    |zero=>simp[DataW.trod]at t0
    |succ fuel=>
    obtain⟨x0,e0,w0⟩:=trod_int (isI64_of u0) t0
    obtain⟨x1,e1,w1⟩:=trod_int (isI64_of u1) t1
    obtain⟨x2,e2,w2⟩:=trod_int (isI64_of u2) t2
    obtain⟨s3,su3,pe3⟩:=sliceOf_of u3
    obtain⟨s4,su4,pe4⟩:=sliceOf_of u4
    obtain⟨s5,su5,pe5⟩:=sliceOf_of u5
    obtain⟨s6,su6,pe6⟩:=sliceOf_of u6
    simp only[Bool.and_eq_true]at pe3 pe4 pe5 pe6
    obtain⟨s5',su5',pe5'⟩:=sliceOf_of pe5.2
    simp only[Bool.and_eq_true]at pe5'
    have es6:=Nat.eq_of_beq_eq_true pe6.1
    simp only[List.cons.injEq,and_true]at e0 e1 e2
    subst e0 e1 e2
    have fl:∀(n:Nat) (s:TypeId),isF64 P s=true→∀cs d ps,DataW.trod enc P w 0 spare held n s cs=some (d,ps)→(∀n∈d.weights P s,n≤reachBytes)→∃x:Nat,cs=[.float .f64 x]∧x<2^64:=by
     intro n s hs cs d ps hh _
     cases n with
     |zero=>simp[DataW.trod]at hh
     |succ n=>exact trod_float (isF64_of hs) hh
    have it:∀(n:Nat) (s:TypeId),isI64 P s=true→∀cs d ps,DataW.trod enc P w 0 spare held n s cs=some (d,ps)→(∀n∈d.weights P s,n≤reachBytes)→∃x:Int,cs=[.int .i64 x]∧(IntKind.i64.min≤x∧x≤IntKind.i64.max):=by
     intro n s hs cs d ps hh _
     cases n with
     |zero=>simp[DataW.trod]at hh
     |succ n=>exact trod_int (isI64_of hs) hh
    obtain⟨x3,r3,l3,w3⟩:=slice_RLf (E:=fun(b:Nat) es=>es=[.float .f64 b]) (W:=fun x:Nat=>x<2^64) (Nat.eq_of_beq_eq_true pe3.1.2) (Nat.le_refl 1) (Nat.le_of_ble_eq_true pe3.2) (fl fuel s3 pe3.1.1) su3 t3 z3'
    obtain⟨x4,r4,l4,w4⟩:=slice_RLf (E:=fun(n:Int) es=>es=[.int .i64 n]) (W:=fun x:Int=>IntKind.i64.min≤x∧x≤IntKind.i64.max) (Nat.eq_of_beq_eq_true pe4.1.2) (Nat.le_refl 1) (Nat.le_of_ble_eq_true pe4.2) (it fuel s4 pe4.1.1) su4 t4 z4'
    obtain⟨x5,r5,l5,w5⟩:=slice_RLf (E:=fun(l:List Int) es=>∃v,es=[v]∧RLf (Old w) w (fun(n:Int) es=>es=[.int .i64 n]) 1 l v)
     (W:=fun l:List Int=>fits l.length 8∧∀x∈l,IntKind.i64.min≤x∧x≤IntKind.i64.max) (Nat.eq_of_beq_eq_true pe5.1.1) (Nat.le_refl 1) (Nat.le_of_ble_eq_true pe5.1.2) (by
      intro cs d ps hh hz
      cases fuel with
      |zero=>simp[DataW.trod]at hh
      |succ fuel=>
       obtain⟨v,rfl⟩:=trod_one su5' hh
       obtain⟨y,ry,ly,wy⟩:=slice_RLf (E:=fun(n:Int) es=>es=[.int .i64 n]) (W:=fun x:Int=>IntKind.i64.min≤x∧x≤IntKind.i64.max) (Nat.eq_of_beq_eq_true pe5'.1.2) (Nat.le_refl 1) (Nat.le_of_ble_eq_true pe5'.2) (it fuel s5' pe5'.1.1) su5' hh hz
       exact⟨y,⟨v,rfl,ry⟩,ly,wy⟩) su5 t5 z5'
    have ktT:ktB P (n+1) t .geo=true:=by
     unfold ktB
     rw[hu]
     simp only[geoB,Bool.and_eq_true]
     exact⟨⟨⟨⟨⟨⟨⟨⟨hlen,hcs⟩,k0⟩,k1⟩,k2⟩,k3⟩,k4⟩,k5⟩,k6⟩
    obtain⟨x6,r6,l6,w6⟩:=slice_RLf (E:=RP (Old w) w .geo) (W:=wf .geo) (sz:=7) (by rw[es6];exact Nat.eq_of_beq_eq_true hcs) (by decide) (Nat.le_of_ble_eq_true pe6.2) (fun cs d ps hh hz=>IH fuel (by omega) (n+1) t .geo cs d ps (by rw[es6]at hh;exact hh) (by rw[es6]at hz;exact hz) ktT) su6 t6 z6'
    obtain⟨a,c,e6,hc6,h6⟩:=r6
    subst e6
    refine⟨Geo.mk x0 x1 x2 x3 x4 x5 x6, ?_, ?_⟩
    ·simp only[RP,RG]
     refine⟨c3,c4,c5,a,c,rfl,r3,r4,r5,hc6, ?_⟩
     rcases h6 with h6|⟨b,off,ha,hb,h6⟩
     ·exact .inl h6
     ·exact .inr ⟨b,off,ha,hb,RGs_of _ _ _ fun i x hx=>h6 i x hx⟩
    ·simp only[wf,wfG]
     exact⟨w0,w1,w2,⟨l3,w3⟩,⟨l4,w4⟩,⟨l5,w5⟩,l6,wfGs_mem fun g hg=>by simpa only[wf]using w6 g hg⟩
   ·rename_i fs a b hu
    simp only[Bool.and_eq_true]at hk
    obtain⟨hl,hall⟩:=trod_structF hu h hz
    have:=agg fs.toList (.pair a b) 0 hall hk.2 (by rw[hl,Nat.eq_of_beq_eq_true hk.1];omega)
    simpa using this
   ·rename_i fs hu
    simp only[Bool.and_eq_true]at hk
    obtain⟨hl,hall⟩:=trod_structF hu h hz
    have:=agg fs.toList .unit 0 hall hk.2 (by rw[hl,Nat.eq_of_beq_eq_true hk.1];rfl)
    simpa using this
   ·rename_i m e a b hu
    simp only[Bool.and_eq_true]at hk
    obtain⟨xs,f',hf',hd,hl,hxl,hel⟩:=DataW.trod_array hu h
    have ef:f'=fuel:=by omega
    subst ef
    simp only[Prod.mk.injEq]at hd
    rw[hd.1]at hz
    simp only[DataW.weights,hu]at hz
    have elem:∀i,i<m→∃d' p',DataW.trod enc P w 0 spare held f' e ((cs.drop (i*P.cellsOf e)).take (P.cellsOf e))=some (d',p')∧∀n∈d'.weights P e,n≤reachBytes:=fun i hi=>by
     have h4:=hel i hi
     rw[List.getElem?_eq_getElem (by omega)]at h4
     exact⟨_,_,h4,fun n hn=>hz n (weightsAll_mem (List.mem_map.2 ⟨xs[i]'(by omega),List.getElem_mem _,rfl⟩) hn)⟩
    have arr:∀(c i:Nat) (κ:Kd),i+c=m→ktA P (ktB P n) e c κ=true→i*P.cellsOf e+κ.size=cs.length→∃x:Den κ,RP (Old w) w κ x (cs.drop (i*P.cellsOf e))∧wf κ x:=by
     intro c
     induction c with
     |zero=>
      intro i κ _ hf hl
      cases κ<;>first|(simp[ktA]at hf;done)|skip
      refine⟨(), ?_,trivial⟩
      simp only[RP]
      exact List.drop_eq_nil_of_le (by simp only[Kd.size]at hl;omega)
     |succ c ihc=>
      intro i κ hi hf hl
      cases κ with
      |pair a b=>
       simp only[ktA,Bool.and_eq_true]at hf
       obtain⟨⟨h1,h2⟩,h3⟩:=hf
       have h2:=Nat.eq_of_beq_eq_true h2
       obtain⟨d',p',hd,hz'⟩:=elem i (by omega)
       obtain⟨x,hx,wx⟩:=ih n e a _ d' p' hd hz' h1
       obtain⟨y,hy,wy⟩:=ihc (i+1) b (by omega) h3 (by simp only[Kd.size]at hl;rw[Nat.add_mul,Nat.one_mul,h2];rw[h2]at hl;omega)
       refine⟨(x,y), ?_,wx,wy⟩
       simp only[RP]
       refine⟨_,_, ?_,hx,hy⟩
       conv=>lhs;rw[←List.take_append_drop (P.cellsOf e) (cs.drop (i*P.cellsOf e))]
       rw[List.drop_drop,Nat.add_mul,Nat.one_mul]
      |_=>simp[ktA]at hf
    have:=arr m 0 (.pair a b) (by omega) hk.2 (by rw[hl,Nat.eq_of_beq_eq_true hk.1];omega)
    simpa using this
   ·cases hk
end
end Go.Av
namespace Go.Av
open Go Go.RowKit Go.ChangeShapes
def aggT(P:Program)(t:TypeId):Bool:=match P.underlying t with|some (.struct _)=>true|some (.array _ _)=>true|_=>false
def flatT(P:Program)(t:TypeId):Bool:=match P.underlying t with|some .bool=>true|some (.int _)=>true|some (.float _)=>true|some .string=>true|some (.slice _)=>true|_=>false
def kindsB(P:Program)(n:Nat):List TypeId→List Par→Bool
 |[],[]=>true
 |t::ts, .k κ::ps=>(bif κ.isAgg then aggT P t else flatT P t)&&ktB P n t κ&&P.readableRec t&&Nat.blt t P.types.size&&kindsB P n ts ps
 |_,_=>false
def wfL:(ps:List Par)→HL ps→Prop
 |[],_=>True
 | .k κ::r,x=>wf κ x.1∧wfL r x.2
 | .fn _::r,x=>wfL r x
 | .ifc _ κ::r,x=>wf κ x.1∧wfL r x.2
section
variable {H:Type} {enc:TypeId×Value→H} {P:Program} {W:World}
theorem agg_of{base:Nat}{t:TypeId}{v:Value}(h:aggT P t=true)(hv:Value.okWide P W .any base t v):∃cs,v= .agg cs:=by
 unfold aggT at h
 split at h
 ·rename_i fs hu
  simp only[Value.okWide,hu]at hv
  obtain⟨cs,rfl,_⟩:=hv
  exact⟨cs,rfl⟩
 ·rename_i m e hu
  simp only[Value.okWide,hu]at hv
  obtain⟨cs,rfl,_⟩:=hv
  exact⟨cs,rfl⟩
 ·cases h
theorem flat_one{base:Nat}{t:TypeId}{v:Value}(h:flatT P t=true)(hv:Value.okWide P W .any base t v):v.cells.toList=[v]:=by
 unfold flatT at h
 split at h
 ·rename_i hu;simp only[Value.okWide,hu,Cell.okWide]at hv;cases v<;>simp_all [Cell.ok,Value.cells]
 ·rename_i hu;simp only[Value.okWide,hu,Cell.okWide]at hv;cases v<;>simp_all [Cell.ok,Value.cells]
 ·rename_i hu;simp only[Value.okWide,hu,Cell.okWide]at hv;cases v<;>simp_all [Cell.ok,Value.cells]
 ·rename_i hu;simp only[Value.okWide,hu,Cell.okWide]at hv;cases v<;>simp_all [Cell.ok,Value.cells]
 ·rename_i hu;simp only[Value.okWide,hu,Cell.okWide]at hv;cases v<;>simp_all [Cell.ok,Value.cells]
 ·cases h
theorem args_stay{n:Nat}{W':World}(hl:laidOutB P=true)(bel:Below W.heap.size W W'):∀(ts:List TypeId) (ps:List Par) (vs:List Value) (ds:List (DataW H)) (qs:List MemPlace),kindsB P n ts ps=true→
 DataW.TrodAll enc P W 0 (fun _=>true) true ts vs ds qs→(∀x∈qs,x.block<W.heap.size)→DataW.TrodAll enc P W' 0 (fun b=>decide (b<W.heap.size)) true ts vs ds qs
 |[],[],vs,ds,qs,_,h,_=>by
  obtain⟨rfl,rfl,rfl⟩:=trodAll_nil h
  exact trodAll_mk0
 |t::ts, .k κ::ps,vs,ds,qs,hk,h,hq=>by
  simp only[kindsB,Bool.and_eq_true]at hk
  obtain⟨⟨⟨⟨k1,k2⟩,k3⟩,k4⟩,k5⟩:=hk
  obtain⟨v,vs,d,ds,p,q,rfl,rfl,rfl,h0,h1⟩:=trodAll_cons h
  exact trodAll_cons_mk (Below.trod hl k3 (Nat.le_of_ble_eq_true k4) h0 bel fun x hx=>hq x (List.mem_append_left _ hx)) (args_stay hl bel ts ps vs ds q k5 h1 fun x hx=>hq x (List.mem_append_right _ hx))
 |[], .k _::_,_,_,_,hk,_,_=>by simp[kindsB]at hk
 |[], .fn _::_,_,_,_,hk,_,_=>by simp[kindsB]at hk
 |[], .ifc _ _::_,_,_,_,hk,_,_=>by simp[kindsB]at hk
 |_::_,[],_,_,_,hk,_,_=>by simp[kindsB]at hk
 |_::_, .fn _::_,_,_,_,hk,_,_=>by simp[kindsB]at hk
 |_::_, .ifc _ _::_,_,_,_,hk,_,_=>by simp[kindsB]at hk
theorem trodAll_lens:∀{ts:List TypeId} {vs:List Value} {ds:List (DataW H)} {qs:List MemPlace},DataW.TrodAll enc P W 0 (fun _=>true) true ts vs ds qs→ds.length=ts.length
 |[],_,_,_,h=>by obtain⟨rfl,rfl,rfl⟩:=trodAll_nil h;rfl
 |t::ts,_,_,_,h=>by
  obtain⟨v,vs,d,ds,p,q,rfl,rfl,rfl,h0,h1⟩:=trodAll_cons h
  simp[trodAll_lens h1]
end
end Go.Av
namespace Go.Av
open Go
def codeAt:Code→List Nat→Code
 |c,[]=>c
 | .seq a _,0::r=>codeAt a r
 | .seq _ b,_::r=>codeAt b r
 | .cond _ a _,0::r=>codeAt a r
 | .cond _ _ b,_::r=>codeAt b r
 | .block _ c,_::r=>codeAt c r
 | .loop c,_::r=>codeAt c r
 |c,_=>c
def bodyOf(f:Func):Code:=match f.body with|some c=>c|none=> .skip
def kdL:List (Nat×Kd)→TypeId→Option Kd
 |[],_=>none
 |(t,κ)::r,u=>bif Nat.beq t u then some κ else kdL r u
theorem allNil{α:Type}{p:α→Prop}:∀c∈([]:List α),p c:=fun c h=>by cases h
theorem allCons{α:Type}{p:α→Prop}{a:α}{l:List α}(h:p a)(hl:∀c∈l,p c):∀c∈a::l,p c:=fun c hc=>by
 rcases List.mem_cons.1 hc with rfl|hc
 ·exact h
 ·exact hl c hc
end Go.Av
namespace Go.Av
open Go Go.RowKit
def ifaceT(P:Program)(t:TypeId):Bool:=match P.underlying t with|some (.interface _)=>true|_=>false
def idleOps(P:Program)(nt t:Nat):List Oper→Bool
 |[⟨some d, .call ⟨.builtin .recover,as,_⟩,_,_,_,none⟩,⟨some t', .binOp .neq it (.tmp d') (.const .nilIface) it',_,_,_,none⟩]=>
  Nat.beq d d'&&Nat.beq t t'&&Nat.blt d nt&&Nat.blt t nt&&as.isEmpty&&ifaceT P it&&Nat.beq it it'
 |_=>false
def idleB(P:Program)(fn:Func):Bool:=
 match fn.body with
 | some (.seq (.region _ ops false) (.cond (.tmp t) _ .skip)) => idleOps P fn.ntmps t ops.toList && fn.results.isEmpty && !(fn.name == "runtime.NumGoroutine")
 |_=>false
theorem idle_of{P:Program}{f:FuncId}{fn:Func}(hf:P.funcs[f]?=some fn)(h:idleB P fn=true):Idle P f:=by
 unfold idleB at h
 split at h
 ·rename_i id ops t x hb
  simp only[Bool.and_eq_true,Bool.not_eq_true']at h
  obtain⟨⟨h1,h2⟩,h3⟩:=h
  have hres:fn.results= #[]:=by simpa using h2
  unfold idleOps at h1
  split at h1
  ·rename_i d as ts ty1 p1 a1 t' it d' it' ty2 p2 a2 hops
   simp only[Bool.and_eq_true]at h1
   obtain⟨⟨⟨⟨⟨⟨e1,e2⟩,l1⟩,l2⟩,e3⟩,hi⟩,e4⟩:=h1
   have e1:=Nat.eq_of_beq_eq_true e1
   have e2:=Nat.eq_of_beq_eq_true e2
   have e4:=Nat.eq_of_beq_eq_true e4
   have l1:=Nat.le_of_ble_eq_true l1
   have l2:=Nat.le_of_ble_eq_true l2
   have e3:as= #[]:=by simpa using e3
   subst e1 e2 e3 e4
   have hops':ops= #[⟨some d, .call ⟨.builtin .recover, #[],ts⟩,ty1,p1,a1,none⟩,⟨some t, .binOp .neq it (.tmp d) (.const .nilIface) it,ty2,p2,a2,none⟩]:=by
    apply Array.ext';exact hops
   subst hops'
   unfold ifaceT at hi
   split at hi
   ·rename_i ms hu
    refine⟨fun args w=> ?_,fun args w=> ?_⟩
    ·have hn' : ¬ fn.name = "runtime.NumGoroutine" := by simpa using h3
     have hb':¬fn.body=none:=by rw[hb];simp
     simp[callFunc,hf,hn',hb']
    ·refine callsD_of_wpS hf hb fun c₀ cs hmode=> ?_
     apply wpS_seq
     apply wpS_region
     simp[wpOpsS,go_sem,recoverD,hmode,Exit.thenS]
     rw[if_pos (Nat.lt_of_lt_of_le (Nat.lt_of_succ_le l1) (show fn.ntmps≤args.length+(fn.ntmps-args.length)by omega))]
     rw[eqGuard_of (fun _=>rfl) (fun⟨c,hc⟩=>by cases hc)]
     have hbin:(binOp .neq it .nilIface .nilIface).run P w= .ok (.bool false) w:=by
      obtain⟨v,hk,v',hr,hv,_⟩:=binV_of (R:=AV) (P:=P) (ι:=ι0) (Fz:=fun _=>False) (w:=w) (op:= .neq) (t:=it) (cst:=true) (x:= .niliface) (y:= .niliface) (vx:= .nilIface) (vy:= .nilIface) (K:=fun v=>some v) (r:= .pv .bool false)
       (by simp[RV]) (by simp[RV]) (by simp[binV,hu,cmpK])
      simp only[Option.some.injEq]at hk
      subst hk
      rw[RV_bool]at hv
      rw[hr,hv]
     simp[hbin,Oper.upon]
     refine wpS_cond (t:=false) ?_ ?_
     ·simp[Act.eval,Act.put]
      intro hge
      exact absurd (Nat.lt_of_lt_of_le (Nat.lt_of_succ_le l2) (show fn.ntmps≤args.length+(fn.ntmps-args.length)by omega)) (Nat.not_lt_of_le hge)
     ·simp only[Bool.false_eq_true,if_false]
      refine wpS_of_wp (wp_skip ?_)
      cases c₀
      simp_all [bodyPostS,results,Act.put]
   ·cases hi
  ·cases h1
 ·cases h
end Go.Av
namespace Go.Av
open Go
section
variable {P:Program} {f:FuncId} {fn:Func} {gl:List Gl}
theorem ext_of {e : Array Value → Sem Value} (κ κ' : Kd) (g : Den κ → Option (Den κ')) (hf : P.funcs[f]? = some fn) (hname : (fn.name == "runtime.NumGoroutine") = false) (hb : fn.body.isNone = true)
 (hn:Extern.findNext fn=none) (he:Extern.find fn=some e)
 (h:∀(w:World) (Fz:Nat→Prop) (x:Den κ) (v:Value) (y:Den κ'),RV ι0 Fz w (.pv κ x) v→g x=some y→∃v',(e #[v]).run P w= .ok v' w∧RV ι0 Fz w (.pv κ' y) v'):
 Con.Sound P gl ⟨f,[.k κ],[κ'],fun x=>g x.1⟩:=by
 intro w Fz x vals y hfz hgl hra hy
 obtain⟨v,r,rfl,hv,hr⟩:=hra
 simp only[RA]at hr
 subst hr
 obtain⟨v',h1,h2⟩:=h w Fz x.1 v y hv hy
 refine .inl ⟨v',w, ?_,RowKit.Below.refl _ _,Fz,fun _ h=>h,fun _ h=> .inl h,hfz,h2⟩
 rw[run_callFunc_extern hf hname hb hn he]
 simp[h1]
theorem bits_of (hf : P.funcs[f]? = some fn) (hname : (fn.name == "runtime.NumGoroutine") = false) (hb : fn.body.isNone = true) (hn : Extern.findNext fn = none) (he : Extern.find fn = some Extern.MathFloatBits.float64bits) :
 Con.Sound P gl ⟨f,[.k .float],[.int .u64],fun x=>some ((x.1:Nat):Int)⟩:=
 ext_of .float (.int .u64) (fun x=>some ((x:Nat):Int)) hf hname hb hn he fun w Fz x v y hv hy=>by
  rw[RV_float]at hv
  subst hv
  simp only[Option.some.injEq]at hy
  subst hy
  exact⟨.int .u64 x,rfl,RV_int.2 rfl⟩
theorem frombits_of (hf : P.funcs[f]? = some fn) (hname : (fn.name == "runtime.NumGoroutine") = false) (hb : fn.body.isNone = true) (hn : Extern.findNext fn = none) (he : Extern.find fn = some Extern.MathFloatBits.float64frombits) :
 Con.Sound P gl ⟨f,[.k (.int .u64)],[.float],fun x=>some (x.1:Int).toNat⟩:=
 ext_of (.int .u64) .float (fun x=>some (x:Int).toNat) hf hname hb hn he fun w Fz x v y hv hy=>by
  rw[RV_int]at hv
  subst hv
  simp only[Option.some.injEq]at hy
  subst hy
  exact⟨.float .f64 x.toNat,rfl,RV_float.2 rfl⟩
end
end Go.Av
namespace Go.Av
open Go Go.RowKit
theorem hdN_mem{ns:List Nat}(h:1≤ns.length):hdN ns∈ns:=by
 cases ns with
 |nil=>simp at h
 |cons n r=>simp[hdN]
mutual
theorem render_ment(pn:Nat→Nat):∀(s:Sh) (x:ShD s) (ns:List Nat) (h:Nat),s.noPar=true→s.cnt≤ns.length→(renderSh pn s x ns).1.ment h=true→h∈ns
 | .k _,_,ns,h,_,_,hm=>by simp[renderSh,AV.ment]at hm
 | .krow _ _ _,_,ns,h,hp,_,_=>by simp[Sh.noPar]at hp
 | .parw _ _,_,ns,h,hp,_,_=>by simp[Sh.noPar]at hp
 | .sub _ _,_,ns,h,_,hl,hm=>by
  simp only[renderSh,AV.ment]at hm
  rw[←Nat.eq_of_beq_eq_true hm];exact hdN_mem (by simpa[Sh.cnt]using hl)
 | .row _ _,_,ns,h,_,hl,hm=>by
  simp only[renderSh,AV.ment]at hm
  rw[←Nat.eq_of_beq_eq_true hm];exact hdN_mem (by simpa[Sh.cnt]using hl)
 | .box cs,d,ns,h,_,hl,hm=>by
  simp only[renderSh,AV.ment]at hm
  rw[←Nat.eq_of_beq_eq_true hm];exact hdN_mem (by simp only[Sh.cnt]at hl;omega)
 | .bsl cs,d,ns,h,_,hl,hm=>by
  simp only[renderSh,AV.ment]at hm
  rw[←Nat.eq_of_beq_eq_true hm];exact hdN_mem (by simp only[Sh.cnt]at hl;omega)
 | .agg cs,d,ns,h,hp,hl,hm=>by
  simp only[renderSh,AV.ment]at hm
  exact renders_ment pn cs d ns h (by simpa[Sh.noPar]using hp) (by simpa[Sh.cnt]using hl) hm
 | .ifc _ s,d,ns,h,hp,hl,hm=>by
  simp only[renderSh,AV.ment]at hm
  exact render_ment pn s d ns h (by simpa[Sh.noPar]using hp) (by simpa[Sh.cnt]using hl) hm
 | .fn _ cs,d,ns,h,hp,hl,hm=>by
  simp only[renderSh,AV.ment]at hm
  exact renders_ment pn cs d ns h (by simpa[Sh.noPar]using hp) (by simpa[Sh.cnt]using hl) hm
 | .lref _,_,ns,h,_,_,hm=>by simp[renderSh,AV.ment]at hm
 | .nilp,_,ns,h,_,_,hm=>by simp[renderSh,AV.ment]at hm
 | .nili,_,ns,h,_,_,hm=>by simp[renderSh,AV.ment]at hm
 | .nilf,_,ns,h,_,_,hm=>by simp[renderSh,AV.ment]at hm
 | .nan,_,ns,h,_,_,hm=>by simp[renderSh,AV.ment]at hm
 | .ep _,_,ns,h,_,_,hm=>by simp[renderSh,AV.ment]at hm
 | .snil,_,ns,h,_,_,hm=>by simp[renderSh,AV.ment]at hm
 | .par _,_,ns,h,hp,_,_=>by simp[Sh.noPar]at hp
theorem renders_ment(pn:Nat→Nat):∀(ss:List Sh) (x:ShDs ss) (ns:List Nat) (h:Nat),noParL ss=true→cnts ss≤ns.length→mentL h (renderShs pn ss x ns).1=true→h∈ns
 |[],_,ns,h,_,_,hm=>by simp[renderShs,mentL]at hm
 |s::r,d,ns,h,hp,hl,hm=>by
  simp only[renderShs,mentL,Bool.or_eq_true]at hm
  simp only[noParL,Bool.and_eq_true]at hp
  simp only[cnts]at hl
  rcases hm with hm|hm
  ·exact render_ment pn s d.1 ns h hp.1 (by omega) hm
  ·rw[render_rest]at hm
   exact List.mem_of_mem_drop (renders_ment pn r d.2 _ h hp.2 (by rw[List.length_drop];omega) hm)
end
mutual
theorem noPar_pars:∀(s:Sh),s.noPar=true→s.pars=[]
 | .k _,_=>rfl
 | .tr,_=>rfl
 | .row _ _,_=>rfl
 | .sub _ _,_=>rfl
 | .krow _ _ _,h=>by simp[Sh.noPar]at h
 | .parw _ _,h=>by simp[Sh.noPar]at h
 | .box cs,h=>by simp only[Sh.pars];exact noParL_pars cs (by simpa[Sh.noPar]using h)
 | .bsl cs,h=>by simp only[Sh.pars];exact noParL_pars cs (by simpa[Sh.noPar]using h)
 | .agg cs,h=>by simp only[Sh.pars];exact noParL_pars cs (by simpa[Sh.noPar]using h)
 | .ifc _ s,h=>by simp only[Sh.pars];exact noPar_pars s (by simpa[Sh.noPar]using h)
 | .fn _ cs,h=>by simp only[Sh.pars];exact noParL_pars cs (by simpa[Sh.noPar]using h)
 | .lref _,_=>rfl
 | .nilp,_=>rfl
 | .nili,_=>rfl
 | .nilf,_=>rfl
 | .nan,_=>rfl
 | .ep _,_=>rfl
 | .snil,_=>rfl
 | .par _,h=>by simp[Sh.noPar]at h
theorem noParL_pars:∀(l:List Sh),noParL l=true→parsL l=[]
 |[],_=>rfl
 |s::r,h=>by
  simp only[noParL,Bool.and_eq_true]at h
  simp only[parsL];rw[noPar_pars s h.1,noParL_pars r h.2];rfl
end
mutual
theorem noPar_wpars:∀(s:Sh),s.noPar=true→s.wpars=[]
 | .k _,_=>rfl
 | .tr,_=>rfl
 | .row _ _,_=>rfl
 | .sub _ _,_=>rfl
 | .krow _ _ _,h=>by simp[Sh.noPar]at h
 | .parw _ _,h=>by simp[Sh.noPar]at h
 | .box cs,h=>by simp only[Sh.wpars];exact noParL_wpars cs (by simpa[Sh.noPar]using h)
 | .bsl cs,h=>by simp only[Sh.wpars];exact noParL_wpars cs (by simpa[Sh.noPar]using h)
 | .agg cs,h=>by simp only[Sh.wpars];exact noParL_wpars cs (by simpa[Sh.noPar]using h)
 | .ifc _ s,h=>by simp only[Sh.wpars];exact noPar_wpars s (by simpa[Sh.noPar]using h)
 | .fn _ cs,h=>by simp only[Sh.wpars];exact noParL_wpars cs (by simpa[Sh.noPar]using h)
 | .lref _,_=>rfl
 | .nilp,_=>rfl
 | .nili,_=>rfl
 | .nilf,_=>rfl
 | .nan,_=>rfl
 | .ep _,_=>rfl
 | .snil,_=>rfl
 | .par _,h=>by simp[Sh.noPar]at h
theorem noParL_wpars:∀(l:List Sh),noParL l=true→wparsL l=[]
 |[],_=>rfl
 |s::r,h=>by
  simp only[noParL,Bool.and_eq_true]at h
  simp only[wparsL];rw[noPar_wpars s h.1,noParL_wpars r h.2];rfl
end
theorem nameL_at:∀(n b i:Nat),i<n→(nameL b n)[i]?=some (b+i)
 |0,b,i,h=>by omega
 |n+1,b,0,h=>by simp[nameL]
 |n+1,b,i+1,h=>by simp only[nameL,List.getElem?_cons_succ];rw[nameL_at n (b+1) i (by omega)];congr 1;omega
theorem nameL_mem:∀{n b k:Nat},k∈nameL b n→b≤k∧k<b+n
 |0,b,k,h=>by simp[nameL]at h
 |n+1,b,k,h=>by
  simp only[nameL,List.mem_cons]at h
  rcases h with rfl|h
  ·omega
  ·have:=nameL_mem h;omega
theorem nameL_nodup:∀(n b:Nat),(nameL b n).Nodup
 |0,b=>List.nodup_nil
 |n+1,b=>by
  simp only[nameL]
  exact List.nodup_cons.2 ⟨fun h=>by have:=nameL_mem h;omega,nameL_nodup n (b+1)⟩
theorem frL_of{ι:Nat→HI}{Fz:Nat→Prop}{w:World}:∀(avs:List AV) (i:Nat) (vals:List Value),RVs ι Fz w avs vals→
 ∀t,RV ι Fz w (getF (frL i avs) t) (if t<i then undef else(vals[t-i]?).getD undef)∨getF (frL i avs) t= .dead
 |[],i,vals,h,t=> .inr rfl
 |v::avs,i,vals,h,t=>by
  simp only[RVs]at h
  obtain⟨u,r,rfl,h1,h2⟩:=h
  simp only[frL,getF_cons]
  by_cases e:i=t
  ·subst e;left;simpa using h1
  ·rw[if_neg e]
   rcases frL_of avs (i+1) r h2 t with h|h
   ·by_cases hlt:t<i+1
    ·have:t<i:=by omega
     rw[if_pos hlt]at h
     left;rw[if_pos this];exact h
    ·rw[if_neg hlt]at h
     left
     rw[if_neg (by omega),show t-i=(t-(i+1))+1 by omega,List.getElem?_cons_succ]
     exact h
   ·exact .inr h
theorem altTry_of{H:List (Nat×AB)}{vs as:List AV}:∀(alts:List Alt) (y:AltD alts),altTry H vs as alts=some y→
 ∃a d,matchAlt H a vs as=some d∧∀pi F w vals v os,altOne pi F w vals a d v os→AltR pi F w vals alts y v os
 |[],y,h=>by simp[altTry]at h
 |[a],y,h=>⟨a,y,h,fun _ _ _ _ _ _ h=>h⟩
 |a::b::r,y,h=>by
  simp only[altTry]at h
  split at h
  ·rename_i d hd
   simp only[Option.some.injEq]at h
   subst h
   exact⟨a,d,hd,fun _ _ _ _ _ _ h=>h⟩
  ·obtain⟨z,hz,h⟩:=Option.bind_eq_some_iff.1 h
   simp only[Option.some.injEq]at h
   subst h
   obtain⟨a',d,h1,h2⟩:=altTry_of (b::r) z hz
   exact⟨a',d,h1,fun pi F w vals v os h=>h2 pi F w vals v os h⟩
theorem keepV_of{ι:Nat→HI}{Fz:Nat→Prop}{w:World}:∀(fins:List (Option Sh)) (avs:List AV) (vals:List Value),RVs ι Fz w avs vals→RVs ι Fz w (keepV fins avs) (keepV fins vals)
 |[],avs,vals,h=>by simp[keepV,RVs]
 |some s::fins,[],vals,h=>by simp only[RVs]at h;subst h;simp[keepV,RVs]
 |none::fins,[],vals,h=>by simp only[RVs]at h;subst h;simp[keepV,RVs]
 |some s::fins,v::avs,vals,h=>by
  simp only[RVs]at h
  obtain⟨u,r,rfl,h1,h2⟩:=h
  simp only[keepV,RVs]
  exact⟨u,_,rfl,h1,keepV_of fins avs r h2⟩
 |none::fins,v::avs,vals,h=>by
  simp only[RVs]at h
  obtain⟨u,r,rfl,h1,h2⟩:=h
  simp only[keepV]
  exact keepV_of fins avs r h2
theorem maskA_of{ι:Nat→HI}{Fz:Nat→Prop}{w:World}:∀(ins:List Sh) (avs:List AV) (vals:List Value),ins.length=avs.length→RVs ι Fz w avs vals→RVs ι Fz w (maskA ins avs) vals
 |[],[],vals,_,h=>by simpa[maskA]using h
 |[],_::_,_,hl,_=>by simp at hl
 |_::_,[],_,hl,_=>by simp at hl
 |i::ins,v::avs,vals,hl,h=>by
  simp only[RVs]at h
  obtain⟨u,r,rfl,h1,h2⟩:=h
  simp only[maskA,RVs]
  refine⟨u,r,rfl, ?_,maskA_of ins avs r (by simpa using hl) h2⟩
  cases Nat.beq i.cnt 0
  ·exact h1
  ·simp[RV]
theorem Con2.sound_of {c : Con2} {fn : Func} {E : Env} {idle : List FuncId} (hf : E.P.funcs[c.fid]? = some fn) (hname : (fn.name == "runtime.NumGoroutine") = false) (hbody : fn.body.isNone = false)
 (hΓ:EnvOk E E.gl) (hI:∀f∈idle,Idle E.P f) (h:∀x y,c.fn x=some y→evF2 E idle fn c.ins c.alts x=some y):c.Sound E.P E.gl:=by
 intro w Fz pi x vals os y hfz hgl hra hok hy
 have hev:=h x y hy
 unfold evF2 at hev
 split at hev
 ·rename_i code hcode
  cases hc:(codeB fn.ntmps code&&Nat.ble c.ins.length fn.ntmps&&noParL c.ins)with
  |false=>rw[hc]at hev;cases hev
  |true=>
   rw[hc,cond_true]at hev
   simp only[Bool.and_eq_true]at hc
   obtain⟨⟨hcode',hn⟩,hnp⟩:=hc
   have hn:=Nat.le_of_ble_eq_true hn
   have hol:=RSs_cnt _ _ _ _ hra
   generalize hns:nameL 1000000 (cnts c.ins)=ns at hev
   have hnsl:ns.length=os.length:=by rw[←hns,nameL_len,hol]
   have hnd:ns.Nodup:=by rw[←hns];exact nameL_nodup _ _
   have hbig:∀k∈ns,1000000≤k:=fun k hk=>by rw[←hns]at hk;exact(nameL_mem hk).1
   have hιat:∀i,assignN ns os ι0 (1000000+i)=os.getD i ⟨0,0,0,true⟩:=by
    intro i
    rcases Nat.lt_or_ge i os.length with hlt|hge
    ·rw[assignN_at (j:=i) (i:=os[i]) hnd (by rw[←hns,nameL_at _ _ _ (by omega)]) (List.getElem?_eq_getElem hlt)]
     rw[List.getD_eq_getElem?_getD,List.getElem?_eq_getElem hlt];rfl
    ·rw[assignN_not (fun hin=>by rw[←hns]at hin;have:=nameL_mem hin;omega),List.getD_eq_getElem?_getD,List.getElem?_eq_none hge];rfl
   obtain⟨q1,q2,q3,q4⟩:=renderShs_of (ι:=assignN ns os ι0) (pn:=fun _=>0) c.ins ⟨fun i hi=>by rw[noParL_pars _ hnp]at hi;simp at hi,fun i hi=>by rw[noParL_wpars _ hnp]at hi;simp at hi⟩ x vals os ns hra (assignN_named hnd (by omega))
   rw[←hnsl,List.take_length]at q4
   have hment:=renders_ment (fun _=>0) c.ins x ns
   have hrl:=renderShs_len (fun _=>0) c.ins x ns
   generalize renderShs (fun _=>0) c.ins x ns=rr at hev q1 q2 q3 q4 hment hrl
   have eH:∀k,(∃(bb:AB) (j:Nat) (i:HI),(k,bb)∈rr.2.1∧getH rr.2.1 k=bb∧ns[j]?=some k∧os[j]?=some i∧assignN ns os ι0 k=i)∨(k∉ns∧getH rr.2.1 k= .gone):=by
    intro k
    rcases getH_entries rr.2.1 [] k with⟨bb,a1,a2⟩|⟨a1,a2⟩
    ·left
     rw[List.append_nil]at a2
     have hk:k∈ns:=by rw[←q4];exact List.mem_map_of_mem (f:=Prod.fst) a1
     obtain⟨j,hj⟩:=List.mem_iff_getElem?.1 hk
     have hjl:=(List.getElem?_eq_some_iff.1 hj).1
     have hi:os[j]?=some os[j]:=List.getElem?_eq_getElem (by omega)
     exact⟨bb,j,_,a1,a2,hj,hi,assignN_at hnd hj hi⟩
    ·right
     rw[List.append_nil]at a2
     rw[q4]at a1
     exact⟨a1,a2⟩
   let r0:Root:=⟨w,ownW w os,fun b hb=> .inl hb,assignN ns os ι0,E.gl⟩
   have m0:Mem r0 Fz (assignN ns os ι0) Fz rr.2.1 w:=by
    refine⟨Bel.refl _ _,hfz,fun _ h=>h,fun _ h=> .inl h,fun k=> ?_,fun k hl hvk=> ?_,fun k k' hl hl' hvk hvk' he=> ?_,fun _ _=>rfl,fun k=> ?_,hgl,fun b hb ho=> ?_⟩
    ·rcases eH k with⟨bb,j,i,a1,a2,_⟩|⟨_,a2⟩
     ·rw[a2];exact(q2 _ a1).1
     ·rw[a2];trivial
    ·rcases eH k with⟨bb,j,i,a1,a2,a3,a4,a5⟩|⟨_,a2⟩
     ·have hi:i∈os:=List.mem_of_getElem? a4
      rw[a5]at hvk⊢
      exact⟨.inr ⟨i,hi,hvk,rfl⟩,(hok.lt i hi hvk).1,(hok.lt i hi hvk).2⟩
     ·rw[a2]at hl;exact hl.elim
    ·rcases eH k with⟨bb,j,i,a1,a2,a3,a4,a5⟩|⟨_,a2⟩
     ·rcases eH k' with⟨bb',j',i',b1,b2,b3,b4,b5⟩|⟨_,b2⟩
      ·rw[a5]at hvk he
       rw[b5]at hvk' he
       have:=hok.ne j j' i i' a4 b4 hvk hvk' he
       subst this
       exact Option.some.inj (a3.symm.trans b3)
      ·rw[b2]at hl';exact hl'.elim
     ·rw[a2]at hl;exact hl.elim
    ·rcases eH k with⟨bb,j,i,a1,a2,_⟩|⟨_,a2⟩
     ·rw[a2];exact(q2 _ a1).2.1
     ·rw[a2];trivial
    ·rcases ho with ho|⟨i,hi,hvk,rfl⟩
     ·have:=hfz b hb;omega
     ·exact(hok.lt i hi hvk).2 hb
   have hl:=RVs_len q1
   have hvl:vals.length=c.ins.length:=by
    have:∀(ss:List Sh) (d:ShDs ss) (vs:List Value) (o:List HI),RSs pi Fz w ss d vs o→vs.length=ss.length:=by
     intro ss
     induction ss with
     |nil=>intro d vs o h;simp only[RSs]at h;rw[h.1];rfl
     |cons s r ih=>
      intro d vs o h
      simp only[RSs]at h
      obtain⟨v,q,o1,o2,rfl,_,_,h2⟩:=h
      simp[ih _ _ _ h2]
    exact this _ _ _ _ hra
   have hb:Behind r0 Fz (assignN ns os ι0) Fz ⟨frL 0 rr.1,rr.2.1,[]⟩ {tmps:=vals.toArray++Array.replicate (fn.ntmps-vals.toArray.size) undef,defers:=[]} w:=by
    refine⟨fun t=> ?_,by simp[RD],m0⟩
    rcases frL_of rr.1 0 vals q1 t with h'|h'
    ·simp only[Nat.not_lt_zero,if_false,Nat.sub_zero]at h'
     have e:(vals.toArray++Array.replicate (fn.ntmps-vals.toArray.size) undef).getD t undef=(vals[t]?).getD undef:=by
      rw[Array.getD_eq_getD_getElem?]
      by_cases hlt:t<vals.length
      ·rw[Array.getElem?_append_left (by simpa using hlt)];simp
      ·rw[List.getElem?_eq_none (by omega)]
       rw[Array.getElem?_append_right (by simpa using hlt)]
       simp only[Option.getD_none]
       cases hx:(Array.replicate (fn.ntmps-vals.toArray.size) undef)[t-vals.toArray.size]? with
       |none=>rfl
       |some y=>
        rw[Array.getElem?_replicate]at hx
        split at hx
        ·simp only[Option.some.injEq]at hx;rw[←hx];rfl
        ·cases hx
     rw[e];exact h'
    ·show RV _ _ _ (getF (frL 0 rr.1) t) _
     rw[h'];simp[RV]
   obtain⟨st1,ι1,F1,hev,b1⟩:=norm_of hev hb
   refine .inr ⟨?_,calls_of_wp_defers hf hcode ?_⟩
   ·have hn' : ¬ fn.name = "runtime.NumGoroutine" := by simpa using hname
    have hb':¬fn.body=none:=by rw[hcode];simp
    simp[callFunc,hf,hn',hb']
   refine evC_of hΓ code hcode' hev (by simp;omega) b1 ?_
   intro e st a w' ι' Fz' hk hnt b
   have hk':e≠ .exit 0→(bif idleDf idle st.df then(resAV E.P st fn.results.toList).bind fun vs=>altTry st.H vs (maskA c.ins rr.1) c.alts else none)=some y:=by
    intro _
    cases e with
    |exit id=>simp[kEnd2]at hk
    |normal=>exact hk
    |ret=>exact hk
   have hne:e≠ .exit 0:=by
    intro e0;rw[e0]at hk;simp[kEnd2]at hk
   have hk':=hk' hne
   cases hid:idleDf idle st.df with
   |false=>rw[hid]at hk';cases hk'
   |true=>
    rw[hid,cond_true]at hk'
    obtain⟨avs,h1,h2⟩:=Option.bind_eq_some_iff.1 hk'
    obtain⟨vs,h3,h4⟩:=resAV_of b fn.results.toList avs h1
    obtain⟨al,d,h5,h6⟩:=altTry_of c.alts y h2
    unfold matchAlt at h5
    obtain⟨⟨d',os2,ls⟩,h7,h8⟩:=Option.bind_eq_some_iff.1 h5
    cases hoo:(ownOk os2 ls&&Nat.beq avs.length al.ress.length)with
    |false=>simp only[hoo]at h8;cases h8
    |true=>
    simp only[hoo,cond_true,Option.some.injEq]at h8
    subst h8
    simp only[Bool.and_eq_true]at hoo
    obtain⟨hoo,hln⟩:=hoo
    have hln:=Nat.eq_of_beq_eq_true hln
    simp only[ownOk,Bool.and_eq_true]at hoo
    have hod:=nodupN_iff hoo.1
    have hlent:∀k∈someN os2,mentL k ls=false:=fun k hk=>by
     have:=List.all_eq_true.1 hoo.2 k hk
     simpa using this
    have m:=b.2.2
    have hbel:Bel (ownW w os) w w':=m.below
    have hw:∀k,Fz k→w'.heap[k]?=w.heap[k]?:=fun k hk=>hbel.block k (by
     rintro (hlt|⟨i,hi,hvi,rfl⟩)
     ·have:=hfz k hk;omega
     ·exact(hok.lt i hi hvi).2 hk)
    have hiot:∀k,1000000≤k→ι' k=assignN ns os ι0 k:=m.iot
    have hargs:RVs ι' Fz' w' rr.1 vals:=RVs_mono hw m.fz0 _ _ (fun k hk=>hiot k (hbig k (hment k hnp (by omega) hk))) q1
    have hall:=RVs_append h4 (keepV_of al.fins _ vals (maskA_of c.ins rr.1 vals hrl.symm hargs))
    have hms:=matchShs_of m.rb m.cn (Fz':=fun _=>True) (fun _ _=>trivial) al.all _ d' os2 ls _ h7 hall (fun _ _ _ _=>trivial)
    have hlive:=hms.2
    obtain⟨hrs,_⟩:=matchShs_of m.rb m.cn (Fz':=fun k=>Fz' k∨∃g,(getH st.H g).live∧g∉someN os2∧(ι' g).virt=false∧(ι' g).blk=k) (fun _ h=> .inl h) al.all _ d' os2 ls _ h7 hall
     (fun k hk hl hvk=> .inr ⟨k,hl,(fun hin=>by rw[hlent k hin]at hk;cases hk),hvk,rfl⟩)
    have hos1:∀i∈os2.map (hiOf ι'),i.virt=false→∃k∈someN os2,ι' k=i:=by
     intro i hi hvi
     obtain⟨o,ho,rfl⟩:=List.mem_map.1 hi
     cases o with
     |none=>simp[hiOf]at hvi
     |some k=>exact⟨k,mem_someN.2 ho,rfl⟩
    have hpi:(fun i=>ι' (1000000+i))=fun i=>os.getD i ⟨0,0,0,true⟩:=by
     funext i
     rw[hiot _ (by omega),hιat]
    rw[hpi]at hrs
    have hgood:∃v,(results fn a.tmps).run E.P w'= .ok v w'∧(∃v',Ending.returned v=Ending.returned v'∧Bel (ownW w os) w w'∧∃(Fz':Nat→Prop) (os':List HI),(∀b,Fz b→Fz' b)∧(∀b,Fz' b→Fz b∨ownW w os b)∧(∀b,Fz' b→b<w'.heap.size)∧
     AltR (fun i=>os.getD i ⟨0,0,0,true⟩) Fz' w' vals c.alts y v' os'∧OsOk Fz' w' os'∧∀i∈os',i.virt=false→ownW w os i.blk):=by
     refine⟨_, ?_,_,rfl,hbel,_,os2.map (hiOf ι'),fun k hk=> .inl (m.fz0 k hk), ?_, ?_,h6 _ _ _ _ _ _ ⟨vs, ?_,rfl,hrs⟩,⟨fun i hi hvi=> ?_,fun j k p q hj hk hp hq he=> ?_⟩,fun i hi hvi=> ?_⟩
     ·rw[results_eq]
      have e1:=run_mapM_toArray fn.results h3
      simp only[Sem.run_bind]
      rw[e1]
      simp only[Result.andThen_ok,Sem.run_pure,List.size_toArray]
      congr 1
     ·rintro k (hk|⟨g,hl,_,hvg,rfl⟩)
      ·exact m.fzn k hk
      ·exact .inr (m.sep g hl hvg).1
     ·rintro k (hk|⟨g,hl,_,hvg,rfl⟩)
      ·exact m.fz k hk
      ·exact(m.sep g hl hvg).2.1
     ·rw[←RVs_len h4,hln]
     ·obtain⟨g,hg,rfl⟩:=hos1 i hi hvi
      obtain⟨_,x2,x3⟩:=m.sep g (hlive g hg) hvi
      refine⟨x2, ?_⟩
      rintro (hF|⟨g',hl,hng,hvg,he⟩)
      ·exact x3 hF
      ·exact hng (m.inj g' g hl (hlive g hg) hvg hvi he▸hg)
     ·rw[List.getElem?_map,Option.map_eq_some_iff]at hj hk
      obtain⟨oj,hj,rfl⟩:=hj
      obtain⟨ok,hk,rfl⟩:=hk
      cases oj with
      |none=>simp[hiOf]at hp
      |some gj=>
       cases ok with
       |none=>simp[hiOf]at hq
       |some gk=>
        have e:=m.inj gj gk (hlive _ (mem_someN.2 (List.mem_of_getElem? hj))) (hlive _ (mem_someN.2 (List.mem_of_getElem? hk))) hp hq he
        subst e
        exact someN_nodup hod hj hk
     ·obtain⟨g,hg,rfl⟩:=hos1 i hi hvi
      exact(m.sep g (hlive g hg) hvi).1
    cases e with
    |exit id=>simp[kEnd2]at hk
    |normal=>exact leaves_of hI hgood st.df a.defers hid b.2.1
    |ret=>exact leaves_of hI hgood st.df a.defers hid b.2.1
 ·cases hev
end Go.Av
namespace Go.Av
open Go
section
variable {P:Program} {f:FuncId} {fn:Func} {gl:List Gl}
end
end Go.Av
namespace Go.Av
open Go
section
variable {P:Program} {f:FuncId} {fn:Func} {gl:List Gl}
end
end Go.Av
