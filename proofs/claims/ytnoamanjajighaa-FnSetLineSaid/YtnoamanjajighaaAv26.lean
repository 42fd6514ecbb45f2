/- The frame rule: what an operation does over a part of the memory, it does over the whole; operations of a drawn region's head. -/
import Derived.Test.YtnoamanjajighaaAv17
set_option linter.unusedVariables false
set_option linter.unusedSimpArgs false
namespace Go.Av
open Go Go.RowKit

section
variable {R S : Type}
theorem aK_bind (K : AV → Option R) : aK K = fun v ob => (aK some v ob).bind K := by
  funext v ob; cases ob <;> rfl
theorem bK_bind (K : AV → Option R) : bK K = fun v ob => (bK some v ob).bind K := by
  funext v ob
  unfold bK
  split <;> simp only [cond_bind, Option.bind_some, Option.bind_none]
theorem opA_bind (E : Env) (op : Op) (e : Operand → AV) (H : List (Nat × AB)) (K : AV → Option R) (d : Nat) : opA E op e H K d = (opA E op e H some d).bind K := by
  have main : ∀ op : Op, opR E op e H (aK K) d = (opR E op e H (aK some) d).bind K := by
    intro op
    rw [aK_bind, ← opR_bind]
  cases op <;> simp only [opA] <;> first | exact main _ | skip
  rw [bK_bind, ← opR_bind]
theorem opA_some {E : Env} {op : Op} {e : Operand → AV} {H : List (Nat × AB)} {K : AV → Option R} {d : Nat} {r : R} (h : opA E op e H K d = some r) : ∃ v, opA E op e H some d = some v ∧ K v = some r := by
  rw [opA_bind] at h
  exact Option.bind_eq_some_iff.1 h
theorem opA_congr (E : Env) (op : Op) {e e' : Operand → AV} (H : List (Nat × AB)) (K : AV → Option R) (d : Nat) (h : ∀ x ∈ op.operands, e x = e' x) : opA E op e H K d = opA E op e' H K d := by
  cases op <;> simp only [opA] <;> exact opR_congr E _ H _ d h
theorem findC2_bind (c2 : List Con2) (f : FuncId) (H : List (Nat × AB)) (vs : List AV) (K : (c : Con2) → ShDs c.ins → List (Option Nat) → List AV → Option R) (K0 : Option R) (G : R → Option S) :
    (findC2 c2 f H vs K K0).bind G = findC2 c2 f H vs (fun c x os ls => (K c x os ls).bind G) (K0.bind G) := by
  induction c2 with
  | nil => rfl
  | cons c l ih =>
    simp only [findC2, cond_bind, ih]
    cases Nat.beq c.fid f
    · rfl
    · simp only [cond_true]; split <;> simp only [*]
theorem altK_bind : ∀ (alts : List Alt) (y : AltD alts) (K : (a : Alt) → ShDs a.all → Option R) (G : R → Option S), (altK alts y K).bind G = altK alts y fun a d => (K a d).bind G
  | [], _, _, _ => rfl
  | [a], _, _, _ => rfl
  | a :: b :: r, y, K, G => by
    cases y with
    | inl d => rfl
    | inr y => exact altK_bind (b :: r) y K G
theorem callX_bind (fr : Bool) (c : Con2) (x : ShDs c.ins) (os : List (Option Nat)) (df : List AV) (d : Nat) (K : AV → List (Nat × AB) → List Nat → Option R) (G : R → Option S) :
    (callX fr c x os df d K).bind G = callX fr c x os df d fun v ks nf => (K v ks nf).bind G := by
  simp only [callX, Option.bind_assoc, altK_bind, cond_bind, Option.bind_none]
theorem appX0_bind (E : Env) (t : TypeId) (H : List (Nat × AB)) (df : List AV) (s x : AV) (d : Nat) (K : AV → List (Nat × AB) → List Nat → Option R) (G : R → Option S) :
    (appX0 E t H df s x d K).bind G = appX0 E t H df s x d fun v ks nf => (K v ks nf).bind G := by
  simp only [appX0, elemK_bind]
  refine congrArg _ (funext fun el => ?_)
  split
  · rw [cond_bind, Option.bind_none, Option.bind_assoc]
    congr 1
    congr 1
    funext ys
    rw [cond_bind, Option.bind_none]
    congr 1
    split
    · rw [cond_bind, Option.bind_assoc]
    · rw [Option.bind_assoc]
      refine congrArg _ (funext fun zs => ?_)
      rw [cond_bind, Option.bind_none, Option.bind_assoc]
    · split
      · rw [cond_bind, Option.bind_none]
        congr 1
        simp only [Option.bind_assoc]
      · rfl
    · rfl
  · rfl
theorem appX_bind (E : Env) (t : TypeId) (H : List (Nat × AB)) (df : List AV) (s x : AV) (d : Nat) (K : AV → List (Nat × AB) → List Nat → Option R) (G : R → Option S) :
    (appX E t H df s x d K).bind G = appX E t H df s x d fun v ks nf => (K v ks nf).bind G := by
  unfold appX
  split
  · split
    · rw [cond_bind, Option.bind_none, appX0_bind]
    · rfl
  · exact appX0_bind E t H df _ x d K G
theorem stX_bind (E : Env) (t : TypeId) (av x : AV) (H : List (Nat × AB)) (K : AV → List (Nat × AB) → List Nat → Option R) (G : R → Option S) :
    (stX E t av x H K).bind G = stX E t av x H fun v ks nf => (K v ks nf).bind G := by
  unfold stX
  split
  · split
    · rw [cond_bind, Option.bind_none]
    · rfl
  · split
    · rw [cond_bind, Option.bind_none, Option.bind_assoc]
    · rfl
  · rfl
theorem cpX_bind (E : Env) (t : TypeId) (H : List (Nat × AB)) (s x : AV) (K : AV → List (Nat × AB) → List Nat → Option R) (G : R → Option S) :
    (cpX E t H s x K).bind G = cpX E t H s x fun v ks nf => (K v ks nf).bind G := by
  unfold cpX
  rw [elemK_bind]
  refine congrArg _ (funext fun el => ?_)
  split
  · split
    · rw [cond_bind, Option.bind_none, Option.bind_assoc]
    · rfl
  · split
    · rw [cond_bind, Option.bind_none, Option.bind_assoc]
    · rfl
  · rw [Option.bind_assoc]
    refine congrArg _ (funext fun κ => ?_)
    rw [cond_bind, Option.bind_none, Option.bind_assoc]
  · rfl
theorem appZ_bind (E : Env) (t t' : TypeId) (df : List AV) (s x : AV) (d : Nat) (K : AV → List (Nat × AB) → List Nat → Option R) (G : R → Option S) :
    (appZ E t t' df s x d K).bind G = appZ E t t' df s x d fun v ks nf => (K v ks nf).bind G := by
  unfold appZ
  rw [elemK_bind]
  refine congrArg _ (funext fun el => ?_)
  split
  · split
    · rw [cond_bind, Option.bind_none]
      congr 1
      split
      · rw [cond_bind, Option.bind_none, Option.bind_assoc]
      · rfl
    · rfl
  · rfl
theorem apX_bind (E : Env) (t : TypeId) (H : List (Nat × AB)) (df : List AV) (s : AV) (d : Nat) (K : AV → List (Nat × AB) → List Nat → Option R) (G : R → Option S) :
    (apX E t H df s d K).bind G = apX E t H df s d fun v ks nf => (K v ks nf).bind G := by
  unfold apX
  split
  · split
    · split
      · rw [cond_bind, Option.bind_none]
        congr 1
        split <;> rfl
      · rfl
    · rfl
  · rfl
theorem cutX_bind (E : Env) (t : TypeId) (H : List (Nat × AB)) (df : List AV) (s hi : AV) (d : Nat) (K : AV → List (Nat × AB) → List Nat → Option R) (G : R → Option S) :
    (cutX E t H df s hi d K).bind G = cutX E t H df s hi d fun v ks nf => (K v ks nf).bind G := by
  unfold cutX
  rw [elemK_bind]
  refine congrArg _ (funext fun el => ?_)
  split
  · split
    · rw [cond_bind, Option.bind_none, Option.bind_assoc]
    · rfl
  · rfl
theorem slX_bind (E : Env) (t : TypeId) (H : List (Nat × AB)) (df : List AV) (s : AV) (K : AV → List (Nat × AB) → List Nat → Option R) (G : R → Option S) :
    (slX E t H df s K).bind G = slX E t H df s fun v ks nf => (K v ks nf).bind G := by
  unfold slX
  split
  · split
    · rw [cond_bind, Option.bind_none, Option.bind_assoc]
    · rfl
  · rfl
theorem nK_bind (df : List AV) (d : Nat) (K : AV → List (Nat × AB) → List Nat → Option R) (G : R → Option S) : (fun v ob => (nK df d K v ob).bind G) = nK df d fun v ks nf => (K v ks nf).bind G := by
  funext v ob
  cases ob with
  | none => rfl
  | some b => simp only [nK, cond_bind, Option.bind_none]
theorem invM_bind (E : Env) (args : Array Operand) (e : Operand → AV) (H : List (Nat × AB)) (df : List AV) (d : Nat) (g : FuncId × AV) (K : AV → List (Nat × AB) → List Nat → Option R) (G : R → Option S) :
    (invM E args e H df d g K).bind G = invM E args e H df d g fun v ks nf => (K v ks nf).bind G := by
  unfold invM
  rw [findC2_bind, findCon_bind]
  congr 1
  · funext c x os ls
    rw [cond_bind, Option.bind_assoc]
    simp only [callX_bind]; rfl
  · congr 1
    funext c' x
    rw [cond_bind, Option.bind_assoc]; rfl
theorem opM_bind (E : Env) (op : Op) (e : Operand → AV) (H : List (Nat × AB)) (df : List AV) (d : Nat) (K : AV → List (Nat × AB) → List Nat → Option R) (G : R → Option S) :
    (opM E op e H df d K).bind G = opM E op e H df d fun v ks nf => (K v ks nf).bind G := by
  have main : ∀ op : Op, (opA E op e H (fun v => K v [] []) d).bind G = opA E op e H (fun v => (K v [] []).bind G) d := by
    intro op
    rw [opA_bind (K := fun v => K v [] []), opA_bind (K := fun v => (K v [] []).bind G), Option.bind_assoc]
  have new : ∀ op : Op, (opR E op e H (nK df d K) d).bind G = opR E op e H (nK df d fun v ks nf => (K v ks nf).bind G) d := by
    intro op
    rw [opR_bind, nK_bind]
  cases op <;> simp only [opM] <;> first | exact main _ | exact new _ | skip
  case store t a x => exact stX_bind E t _ _ H K G
  case sliceToArrayPointer t x => exact apX_bind E t H df _ d K G
  case slice t x lo hi mx =>
    cases lo with
    | some _ => cases hi <;> cases mx <;> exact main _
    | none =>
      cases hi with
      | some hi =>
        cases mx with
        | some _ => exact main _
        | none =>
          simp only
          rw [cond_bind, cutX_bind, main]
      | none =>
        cases mx with
        | some _ => exact main _
        | none =>
          simp only
          split
          · exact slX_bind E t H df _ K G
          · exact main _
  case buildSlice t len parts =>
    rw [cond_bind, new, Option.bind_assoc]
    congr 1
    congr 1
    funext gs
    rw [opA_bind (K := fun v => K v gs []), opA_bind (K := fun v => (K v gs []).bind G), Option.bind_assoc]
  case call c =>
    obtain ⟨callee, args, ts⟩ := c
    cases callee with
    | builtin bi =>
      cases bi <;> simp only <;> first | exact main _ | skip
      case append =>
        split
        · rw [cond_bind, appX_bind, appZ_bind]
        · rfl
      case copy =>
        split
        · rw [cpX_bind]
        · rfl
    | value f =>
      simp only
      split
      · rw [findC2_bind, main]
        congr 1
        funext c x os ls
        rw [cond_bind, Option.bind_assoc]
        simp only [callX_bind]; rfl
      · rfl
    | invoke f nm =>
      simp only
      split
      · simp only [methK_bind, invM_bind]
      · simp only [dynK_bind, methK_bind, invM_bind]
      · rfl
theorem opM_some {E : Env} {op : Op} {e : Operand → AV} {H : List (Nat × AB)} {df : List AV} {d : Nat} {K : AV → List (Nat × AB) → List Nat → Option R} {r : R} (h : opM E op e H df d K = some r) :
    ∃ v ks nf, opM E op e H df d (fun v ks nf => some (v, ks, nf)) = some (v, ks, nf) ∧ K v ks nf = some r := by
  have := opM_bind E op e H df d (fun v ks nf => some (v, ks, nf)) fun t => K t.1 t.2.1 t.2.2
  simp only [Option.bind_some] at this
  rw [← this] at h
  obtain ⟨⟨v, ks, nf⟩, h1, h2⟩ := Option.bind_eq_some_iff.1 h
  exact ⟨v, ks, nf, h1, h2⟩
theorem flatMap_same {α β : Type} {f g : α → List β} : ∀ {l : List α}, (∀ x ∈ l, f x = g x) → l.flatMap f = l.flatMap g
  | [], _ => rfl
  | a :: l, h => by simp only [List.flatMap_cons]; rw [h a (by simp), flatMap_same fun x hx => h x (by simp [hx])]
theorem mentL_parts {e : Operand → AV} {k : Nat} {x : Operand} {parts : Array (Nat × Operand)} (hx : ∃ n, (n, x) ∈ parts) (hk : mentL k (e x).flat = true) : mentL k (partsF e parts) = true := by
  obtain ⟨n, hx⟩ := hx
  have key : ∀ l : List (Nat × Operand), (n, x) ∈ l → mentL k (l.flatMap fun p => (e p.2).flat) = true := by
    intro l
    induction l with
    | nil => intro h; cases h
    | cons p l ih =>
      intro h
      rw [List.flatMap_cons, mentL_append, Bool.or_eq_true]
      rcases List.mem_cons.1 h with e | e
      · subst e; exact .inl hk
      · exact .inr (ih e)
  exact key _ (by simpa using hx)
theorem opM_congr (E : Env) (op : Op) {e e' : Operand → AV} (H : List (Nat × AB)) (df : List AV) (K : AV → List (Nat × AB) → List Nat → Option R) (d : Nat) (h : ∀ x ∈ op.operands, e x = e' x) : opM E op e H df d K = opM E op e' H df d K := by
  cases op <;> simp only [opM] <;> first | exact opA_congr E _ H _ d h | exact opR_congr E _ H _ d h | skip
  case store t a x => rw [h a (by simp [Op.operands]), h x (by simp [Op.operands])]
  case sliceToArrayPointer t x => rw [h x (by simp [Op.operands])]
  case slice t x lo hi mx =>
    cases lo with
    | some _ => cases hi <;> cases mx <;> exact opA_congr E _ H _ d h
    | none =>
      cases hi with
      | some hi =>
        cases mx with
        | some _ => exact opA_congr E _ H _ d h
        | none =>
          simp only
          rw [opA_congr E _ H _ d h, h x (by simp [Op.operands]), h hi (by simp [Op.operands])]
      | none =>
        cases mx with
        | some _ => exact opA_congr E _ H _ d h
        | none =>
          simp only
          rw [opA_congr E _ H _ d h, h x (by simp [Op.operands])]
  case buildSlice t len parts =>
    have hp : partsF e parts = partsF e' parts := by
      unfold partsF
      rw [← List.flatMap_map (f := Prod.snd) (g := fun x => (e x).flat), ← List.flatMap_map (f := Prod.snd) (g := fun x => (e' x).flat)]
      refine flatMap_same fun x hx => ?_
      rw [h x (by simpa [Op.operands] using hx)]
    rw [opR_congr E _ H _ d h, hp]
    congr 2
    funext gs
    exact opA_congr E _ _ _ d fun x hx => by rw [h x hx]
  case call c =>
    obtain ⟨callee, args, ts⟩ := c
    have hargs : args.toList.map e = args.toList.map e' := List.map_congr_left fun p hp => h p (by
      simp only [Op.operands, Call.operands, Array.mem_append]
      exact .inr (by simpa using hp))
    cases callee with
    | builtin bi =>
      cases bi <;> simp only <;> first | exact opA_congr E _ H _ d h | skip
      case append =>
        split
        · rename_i s x t t' ha _
          have hx : ∀ y ∈ args, e y = e' y := fun y hy => h y (by simp only [Op.operands, Call.operands, Array.mem_append]; exact .inr hy)
          rw [hx s (by simpa using (show s ∈ args.toList by rw [ha]; simp)), hx x (by simpa using (show x ∈ args.toList by rw [ha]; simp))]
        · rfl
      case copy =>
        split
        · rename_i s x t t' ha _
          have hx : ∀ y ∈ args, e y = e' y := fun y hy => h y (by simp only [Op.operands, Call.operands, Array.mem_append]; exact .inr hy)
          rw [hx s (by simpa using (show s ∈ args.toList by rw [ha]; simp)), hx x (by simpa using (show x ∈ args.toList by rw [ha]; simp))]
        · rfl
    | value f =>
      have hf : e f = e' f := h f (by simp [Op.operands, Call.operands])
      simp only
      rw [hf, hargs, opA_congr E _ H _ d h]
    | invoke f nm =>
      have hf : e f = e' f := h f (by simp [Op.operands, Call.operands])
      simp only [hf, invM, hargs]
end
section
variable {P : Program} {w0 : Root} {Fz0 : Nat → Prop} {ι : Nat → HI} {Fz : Nat → Prop} {H : List (Nat × AB)} {w : World}
theorem opA_of {o : Oper} {a : Act} {E : Env} {e : Operand → AV} {d : Nat} {v : AV} (hΓ : ∀ c ∈ E.cons, c.Sound E.P w0.gl) (m : Mem w0 Fz0 ι Fz H w)
    (he : ∀ x, RV ι Fz w (e x) (a.eval x)) (h : opA E o.op e H some d = some v) : OpGives E.P o a w (After w0 Fz0 ι Fz H w d v none) := by
  have main : opR E o.op e H (aK some) d = some v → OpGives E.P o a w (After w0 Fz0 ι Fz H w d v none) := by
    intro h
    obtain ⟨v', ob, hk, hg⟩ := opR_of hΓ m he h
    cases ob with
    | some b => cases hk
    | none =>
      simp only [aK, Option.some.injEq] at hk
      subst hk
      exact hg (fun b hb => by cases hb)
  generalize ho : o.op = op at h
  cases op <;> simp only [opA] at h <;> first | exact main (by rw [ho]; exact h) | skip
  rename_i t len parts
  cases hpl : plainSl E t with
  | false =>
    obtain ⟨v1, b1, hk, _⟩ := buildBsl_of m he h hpl
    unfold opR at h
    obtain ⟨el, hu, h⟩ := elemK_of h
    split at h
    · rename_i κ hkd
      simp [plainSl, hu, hkd] at hpl
    · cases hc : (sizeB E.P el 1 && zeroSome E.P el && Nat.ble 1 len && Nat.beq parts.size len && Nat.ble len 1000 && inOrder 0 (parts.toList.map Prod.fst) && (parts.toList.map fun p => e p.2).all AV.single) with
      | false => rw [hc] at h; cases h
      | true => rw [hc] at h; simp [bK] at h
  | true =>
  obtain ⟨el, κ, xs, hk, v', w', hr, ha⟩ := buildSlice_frz (d' := d) m he h hpl
  simp only [bK, decide_true, cond_true, Option.some.injEq] at hk
  subst hk
  refine .inl ⟨v', w', ?_, ha⟩
  simp only [execOp, ho]
  simp [hr]

/-! ### the frame rule -/
theorem getH_sub (H : List (Nat × AB)) : ∀ (l : List Nat) (h : Nat), (h ∈ l ∧ getH (keepHp H l) h = getH H h) ∨ (h ∉ l ∧ getH (keepHp H l) h = .gone)
  | [], h => .inr ⟨by simp, rfl⟩
  | s :: l, h => by
    have e : getH (keepHp H (s :: l)) h = if s = h then getH H s else getH (keepHp H l) h := by
      show getH ((s, getH H s) :: keepHp H l) h = _
      rw [getH_cons]
    by_cases hs : s = h
    · subst hs; left; exact ⟨by simp, by rw [e, if_pos rfl]⟩
    · rcases getH_sub H l h with ⟨h1, h2⟩ | ⟨h1, h2⟩
      · left; exact ⟨by simp [h1], by rw [e, if_neg hs, h2]⟩
      · right; exact ⟨by simp only [List.mem_cons, not_or]; exact ⟨Ne.symm hs, h1⟩, by rw [e, if_neg hs, h2]⟩
/-- A root that owns what a part of the memory holds. -/
def Root.sub (gl : List Gl) (w : World) (ι : Nat → HI) (H : List (Nat × AB)) (fp : List Nat) : Root :=
  ⟨w, fun b => w.heap.size ≤ b ∨ ∃ h ∈ fp, (getH H h).live ∧ (ι h).virt = false ∧ (ι h).blk = b, fun _ hb => .inl hb, ι, gl⟩
theorem Mem.sub (m : Mem w0 Fz0 ι Fz H w) (fp : List Nat) : Mem (Root.sub w0.gl w ι H fp) Fz ι Fz (keepHp H fp) w := by
  have live : ∀ k, (getH (keepHp H fp) k).live → k ∈ fp ∧ (getH H k).live := fun k hk => by
    rcases getH_sub H fp k with ⟨h1, h2⟩ | ⟨h1, h2⟩
    · exact ⟨h1, by rwa [h2] at hk⟩
    · rw [h2] at hk; exact hk.elim
  refine ⟨Bel.refl _ _, m.fz, fun _ h => h, fun _ h => .inl h, fun k => ?_, fun k hk hv => ?_, fun k k' hk hk' => m.inj k k' (live k hk).2 (live k' hk').2, fun _ _ => rfl, fun k => ?_, m.gok, fun b hb => ?_⟩
  · rcases getH_sub H fp k with ⟨h1, h2⟩ | ⟨h1, h2⟩
    · rw [h2]; exact m.rb k
    · rw [h2]; trivial
  · obtain ⟨h1, h2⟩ := live k hk
    obtain ⟨_, b, c⟩ := m.sep k h2 hv
    exact ⟨.inr ⟨k, h1, h2, hv, rfl⟩, b, c⟩
  · rcases getH_sub H fp k with ⟨h1, h2⟩ | ⟨h1, h2⟩
    · rw [h2]; exact m.cn k
    · rw [h2]; trivial
  · rintro (h | ⟨k, _, h1, h2, rfl⟩)
    · have := m.fz b hb; omega
    · exact (m.sep k h1 h2).2.2 hb
theorem sub_own {fp : List Nat} (m : Mem w0 Fz0 ι Fz H w) {b : Nat} (h : (Root.sub w0.gl w ι H fp).own b) : w0.own b := by
  rcases h with h | ⟨k, _, h1, h2, rfl⟩
  · exact w0.big b (Nat.le_trans m.below.size h)
  · exact (m.sep k h1 h2).1
theorem sub_fz {fp : List Nat} (m : Mem w0 Fz0 ι Fz H w) {b : Nat} (hb : Fz b) : ¬ (Root.sub w0.gl w ι H fp).own b := by
  rintro (h | ⟨k, _, h1, h2, rfl⟩)
  · have := m.fz b hb; omega
  · exact (m.sep k h1 h2).2.2 hb
theorem sub_other {fp : List Nat} (m : Mem w0 Fz0 ι Fz H w) {k : Nat} (hk : k ∉ fp) (hl : (getH H k).live) (hv : (ι k).virt = false) : ¬ (Root.sub w0.gl w ι H fp).own (ι k).blk := by
  rintro (h | ⟨g, hg, h1, h2, he⟩)
  · have := (m.sep k hl hv).2.1; omega
  · exact hk (m.inj g k h1 hl h2 hv he ▸ hg)
theorem RVs_noment {ι' : Nat → HI} {Fz' : Nat → Prop} {w' : World} {nf : List Nat} (hw : ∀ b, Fz b → w'.heap[b]? = w.heap[b]?) (hf : ∀ b, Fz b → Fz' b) (hι : ∀ n, n ∉ nf → ι' n = ι n) {cs : List AV} {vs : List Value}
    (hno : ∀ n ∈ nf, mentL n cs = false) (h : RVs ι Fz w cs vs) : RVs ι' Fz' w' cs vs :=
  RVs_mono hw hf cs vs (fun k hk => hι k fun hin => by rw [hno k hin] at hk; cases hk) h
/-- THE FRAME RULE. -/
theorem Mem.frame {fp nf ks : List Nat} {Hl H' : List (Nat × AB)} {w' : World} {ι' : Nat → HI} {Fz' : Nat → Prop} (m : Mem w0 Fz0 ι Fz H w) (ml : Mem (Root.sub w0.gl w ι H fp) Fz ι' Fz' Hl w')
    (hι : ∀ n, n ∉ nf → ι' n = ι n) (hnf : ∀ n ∈ nf, n ∈ ks) (hno : ∀ n ∈ nf, ∀ h, (getH H h).ment n = false)
    (h1 : ∀ h, h ∈ fp ∨ h ∈ ks → getH H' h = getH Hl h) (h2 : ∀ h, h ∉ fp → h ∉ ks → getH H' h = getH H h) : Mem w0 Fz0 ι' Fz' H' w' := by
  have hbel : Bel (Root.sub w0.gl w ι H fp).own w w' := ml.below
  have hw : ∀ b, Fz b → w'.heap[b]? = w.heap[b]? := fun b hb => hbel.block b (sub_fz m hb)
  have hι2 : ∀ h, h ∉ ks → ι' h = ι h := fun h hh => hι h fun hin => hh (hnf h hin)
  have cs : ∀ h, (h ∈ fp ∨ h ∈ ks) ∨ (h ∉ fp ∧ h ∉ ks) := fun h => by
    by_cases a : h ∈ fp
    · exact .inl (.inl a)
    · by_cases b : h ∈ ks
      · exact .inl (.inr b)
      · exact .inr ⟨a, b⟩
  refine ⟨m.below.trans ⟨hbel.os, hbel.tape, hbel.output, hbel.size, fun k hk => hbel.block k fun ho => hk (sub_own m ho)⟩, ml.fz, fun b hb => ml.fz0 b (m.fz0 b hb), fun b hb => ?_, fun h => ?_, fun h hl hv => ?_, fun h h' hl hl' hv hv' he => ?_, fun h hh => (ml.iot h hh).trans (m.iot h hh), fun h => ?_, m.gz⟩
  · rcases ml.fzn b hb with hb | hb
    · exact m.fzn b hb
    · exact .inr (sub_own m hb)
  · rcases cs h with hh | ⟨ha, hb⟩
    · rw [h1 h hh]; exact ml.rb h
    · rw [h2 h ha hb]
      have hrb := m.rb h
      have hn : ∀ n ∈ nf, (getH H h).ment n = false := fun n hn => hno n hn h
      have hblk : (getH H h).live → (ι h).virt = false → w'.heap[(ι h).blk]? = w.heap[(ι h).blk]? := fun hl hv => hbel.block _ (sub_other m ha hl hv)
      generalize getH H h = bb at hrb hn hblk
      cases bb with
      | gone => trivial
      | box cs =>
        simp only [RB] at hrb ⊢
        rw [hι2 h hb]
        obtain ⟨hv, vs, T, g1, g2, g3⟩ := hrb
        exact ⟨hv, vs, T, by rw [hblk trivial hv]; exact g1, RVs_noment hw ml.fz0 hι (fun n hn' => by simpa [AB.ment] using hn n hn') g2, g3⟩
      | arr e κ xs =>
        simp only [RB] at hrb ⊢
        rw [hι2 h hb]
        refine ⟨hrb.1, ?_⟩
        rcases hrb.2 with g2 | ⟨hv, vs, g1, g2, g3, g4, g5⟩
        · exact .inl g2
        · refine .inr ⟨hv, vs, by rw [hblk trivial hv]; exact g1, g2, g3, g4, fun i x hx => ?_⟩
          obtain ⟨es, a, b, c⟩ := g5 i x hx
          exact ⟨es, RP_mono hw ml.fz0 _ _ _ a, b, c⟩
  · rcases cs h with hh | ⟨ha, hb⟩
    · rw [h1 h hh] at hl
      obtain ⟨a, b, c⟩ := ml.sep h hl hv
      exact ⟨sub_own m a, b, c⟩
    · rw [h2 h ha hb] at hl
      rw [hι2 h hb] at hv ⊢
      obtain ⟨a, b, c⟩ := m.sep h hl hv
      refine ⟨a, Nat.lt_of_lt_of_le b hbel.size, fun hF => ?_⟩
      rcases ml.fzn _ hF with hF | hF
      · exact c hF
      · exact sub_other m ha hl hv hF
  · rcases cs h with hh | ⟨ha, hb⟩
    · rw [h1 h hh] at hl
      rcases cs h' with hh' | ⟨ha', hb'⟩
      · rw [h1 h' hh'] at hl'
        exact ml.inj h h' hl hl' hv hv' he
      · rw [h2 h' ha' hb'] at hl'
        rw [hι2 h' hb'] at hv' he
        exact absurd (he ▸ (ml.sep h hl hv).1) (sub_other m ha' hl' hv')
    · rw [h2 h ha hb] at hl
      rw [hι2 h hb] at hv he
      rcases cs h' with hh' | ⟨ha', hb'⟩
      · rw [h1 h' hh'] at hl'
        exact absurd (he ▸ (ml.sep h' hl' hv').1) (sub_other m ha hl hv)
      · rw [h2 h' ha' hb'] at hl'
        rw [hι2 h' hb'] at hv' he
        exact m.inj h h' hl hl' hv hv' he
  · rcases cs h with hh | ⟨ha, hb⟩
    · rw [h1 h hh]; exact ml.cn h
    · rw [h2 h ha hb, hι2 h hb]; exact m.cn h

/-! ### operations of a drawn head -/
theorem getH_ks : ∀ (ks H : List (Nat × AB)) (h : Nat), h ∈ ks.map Prod.fst → getH (ks ++ H) h = getH ks h
  | [], H, h, hh => by simp at hh
  | (n, b) :: ks, H, h, hh => by
    rw [List.cons_append, getH_cons, getH_cons]
    by_cases e : n = h
    · rw [if_pos e, if_pos e]
    · rw [if_neg e, if_neg e]
      refine getH_ks ks H h ?_
      simp only [List.map_cons, List.mem_cons] at hh
      exact hh.resolve_left (Ne.symm e)
theorem getH_notks : ∀ (ks H : List (Nat × AB)) (h : Nat), h ∉ ks.map Prod.fst → getH (ks ++ H) h = getH H h
  | [], H, h, hh => rfl
  | (n, b) :: ks, H, h, hh => by
    simp only [List.map_cons, List.mem_cons, not_or] at hh
    rw [List.cons_append, getH_cons, if_neg (Ne.symm hh.1)]
    exact getH_notks ks H h hh.2
/-- What an operation of a drawn head gives: its value, what it leaves; the rest as it was but for the new names. -/
def GivesM (w0 : Root) (Fz0 : Nat → Prop) (ι : Nat → HI) (H : List (Nat × AB)) (v : AV) (ks : List (Nat × AB)) (nf : List Nat) (v' : Value) (w' : World) : Prop :=
  ∃ (ι' : Nat → HI) (Fz' : Nat → Prop) (Hl : List (Nat × AB)), Mem w0 Fz0 ι' Fz' Hl w' ∧ RV ι' Fz' w' v v' ∧ (∀ n, n ∉ nf → ι' n = ι n) ∧
    (∀ h, h ∈ ks.map Prod.fst → getH Hl h = getH ks h) ∧ (∀ h, h ∉ ks.map Prod.fst → getH Hl h = AB.strikeLs nf (getH H h))
theorem frz1_of {F1 : Nat → Prop} (hrb : ∀ h, RB ι Fz w h (getH H h)) (hf : ∀ b, Fz b → F1 b) {c : AV} {v : Value} (hm : ∀ h, c.ment h = true → (getH H h).live → (ι h).virt = false → F1 (ι h).blk) (hr : RV ι Fz w c v) : RV ι F1 w (c.frz1 H) v := by
  cases c with
  | own κ h =>
    simp only [AV.frz1]
    split
    · rename_i e κ' xs hg
      exact leafD_of hrb hf (κ := .list κ') rfl (a := .own κ h) (by simp [leafD, leaf0, hg, castD]) hr (fun k hk hl hv => hm k hk (by revert hl; cases getH H k <;> simp [AB.isArr, AB.live]) hv)
    · simp only [RV]
  | sub κ h off len =>
    simp only [AV.frz1]
    split
    · rename_i e κ' xs hg
      cases hk : decide (κ = κ') with
      | false => simp only [cond_false, RV]
      | true => exact leafD_of hrb hf (κ := .list κ') rfl (a := .sub κ h off len) (by simp [leafD, leaf0, hg, castD, hk]) hr (fun k hk hl hv => hm k hk (by revert hl; cases getH H k <;> simp [AB.isArr, AB.live]) hv)
    · simp only [RV]
  | _ => exact RV_mono (fun _ _ => rfl) hf _ v (fun _ _ => rfl) hr
theorem frz1s_of {F1 : Nat → Prop} (hrb : ∀ h, RB ι Fz w h (getH H h)) (hf : ∀ b, Fz b → F1 b) : ∀ {cs : List AV} {vs : List Value}, (∀ h, mentL h cs = true → (getH H h).live → (ι h).virt = false → F1 (ι h).blk) → RVs ι Fz w cs vs → RVs ι F1 w (cs.map (AV.frz1 H)) vs
  | [], vs, hm, h => by simp only [RVs, List.map_nil] at h ⊢; exact h
  | c :: cs, vs, hm, h => by
    simp only [RVs, List.map_cons] at h ⊢
    obtain ⟨v, r, e, h1, h2⟩ := h
    exact ⟨v, r, e, frz1_of hrb hf (fun k hk => hm k (by simp [mentL, hk])) h1, frz1s_of hrb hf (fun k hk => hm k (by simp [mentL, hk])) h2⟩
theorem frzV_of {F1 : Nat → Prop} (hrb : ∀ h, RB ι Fz w h (getH H h)) (hf : ∀ b, Fz b → F1 b) {c : AV} {v : Value} (hm : ∀ h, mentL h c.flat = true → (getH H h).live → (ι h).virt = false → F1 (ι h).blk) (hr : RV ι Fz w c v) : RV ι F1 w (c.frzV H) v := by
  cases c with
  | agg cs =>
    simp only [AV.frzV, RV] at hr ⊢
    obtain ⟨vs, e, h1, h2⟩ := hr
    exact ⟨vs, e, h1, frz1s_of hrb hf hm h2⟩
  | pv κ x => exact RV_mono (fun _ _ => rfl) hf _ v (fun _ _ => rfl) hr
  | _ => exact frz1_of hrb hf (fun k hk => hm k (by simpa [AV.flat, mentL] using hk)) hr
theorem opM_of {o : Oper} {a : Act} {E : Env} {e : Operand → AV} {df : List AV} {d : Nat} {v : AV} {ks : List (Nat × AB)} {nf : List Nat} (hΓ : EnvOk E w0.gl) (m : Mem w0 Fz0 ι Fz H w)
    (he : ∀ x, RV ι Fz w (e x) (a.eval x)) (hdf : RD ι Fz w df a.defers) (h : opM E o.op e H df d (fun v ks nf => some (v, ks, nf)) = some (v, ks, nf)) :
    nf.all (okNew df) = true ∧ (∀ n ∈ nf, n ∈ ks.map Prod.fst) ∧ OpGives E.P o a w (GivesM w0 Fz0 ι H v ks nf) := by
  have read : opA E o.op e H (fun v => some (v, ([] : List (Nat × AB)), ([] : List Nat))) d = some (v, ks, nf) → nf.all (okNew df) = true ∧ (∀ n ∈ nf, n ∈ ks.map Prod.fst) ∧ OpGives E.P o a w (GivesM w0 Fz0 ι H v ks nf) := by
    intro h
    obtain ⟨v1, h1, h2⟩ := opA_some h
    simp only [Option.some.injEq, Prod.mk.injEq] at h2
    obtain ⟨rfl, rfl, rfl⟩ := h2
    refine ⟨rfl, fun n hn => by simp at hn, (opA_of hΓ.c1 m he h1).mono ?_⟩
    rintro v' w' ⟨ι', Fz', g1, g2, g3, g4, g5⟩
    have e1 : ι' = ι := funext fun k => g3 k (.inl rfl)
    subst e1
    exact ⟨ι', Fz', H, g4, g5, fun _ _ => rfl, fun h hh => by simp at hh, fun h _ => rfl⟩
  have new : opR E o.op e H (nK df d fun v ks nf => some (v, ks, nf)) d = some (v, ks, nf) → nf.all (okNew df) = true ∧ (∀ n ∈ nf, n ∈ ks.map Prod.fst) ∧ OpGives E.P o a w (GivesM w0 Fz0 ι H v ks nf) := by
    intro h
    obtain ⟨v1, ob, h1, hg⟩ := opR_of hΓ.c1 m he h
    cases ob with
    | none => simp [nK] at h1
    | some bl =>
      simp only [nK] at h1
      cases hc : (okNew df d && !bl.ment d) with
      | false => rw [hc] at h1; cases h1
      | true =>
        rw [hc, cond_true] at h1
        simp only [Option.some.injEq, Prod.mk.injEq] at h1
        obtain ⟨rfl, rfl, rfl⟩ := h1
        simp only [Bool.and_eq_true, Bool.not_eq_true'] at hc
        refine ⟨by simp [hc.1], fun n hn => by simpa using hn, (hg (fun b hb => by cases hb; exact ⟨hc.2, (okNew_df hc.1).2⟩)).mono ?_⟩
        rintro v' w' ⟨ι', Fz', g1, g2, g3, g4, g5⟩
        refine ⟨ι', Fz', _, g4, g5, fun n hn => g3 n (.inr (by simpa using hn)), fun h hh => ?_, fun h hh => ?_⟩
        · simp only [List.map_cons, List.map_nil, List.mem_singleton] at hh
          subst hh
          simp [getH_cons]
        · simp only [List.map_cons, List.map_nil, List.mem_singleton] at hh
          rw [getH_cons, if_neg (Ne.symm hh), getH_strike]
          rfl
  generalize ho : o.op = op at h read new
  cases op <;> simp only [opM] at h <;> first | exact read h | exact new h | skip
  case store t x y =>
    have hb : Behind w0 Fz0 ι Fz ⟨[], H, df⟩ a w := ⟨fun t => by simp [getF, RV], hdf, m⟩
    obtain ⟨ks1, hk, w', hr, hb'⟩ := stX_of (st := ⟨[], H, df⟩) hb (he x) (he y) h
    simp only [Option.some.injEq, Prod.mk.injEq] at hk
    obtain ⟨rfl, rfl, rfl⟩ := hk
    refine ⟨rfl, fun n hn => by simp at hn, .inr (.inl ⟨w', by simp [execOp, ho, hr], ι, Fz, _, hb'.2.2, by simp [RV], fun _ _ => rfl, fun h hh => getH_ks _ _ _ hh, fun h hh => ?_⟩)⟩
    rw [getH_notks _ _ _ hh]; rfl
  case sliceToArrayPointer t x =>
    have hb : Behind w0 Fz0 ι Fz ⟨[], H, df⟩ a w := ⟨fun t => by simp [getF, RV], hdf, m⟩
    obtain ⟨v1, ks1, hk, hn, hks, v', hr, ι', hb', hv', hι⟩ := apX_of (st := ⟨[], H, df⟩) hb (he x) h
    simp only [Option.some.injEq, Prod.mk.injEq] at hk
    obtain ⟨rfl, rfl, rfl⟩ := hk
    refine ⟨by simp [hn], fun n hn => by simp only [List.mem_singleton] at hn; rw [hn]; exact hks, .inl ⟨v', w, by simp [execOp, ho, hr], ι', Fz, _, hb'.2.2, hv', fun n hn => hι n (by simpa using hn), fun h hh => getH_ks _ _ _ hh, fun h hh => ?_⟩⟩
    rw [getH_notks _ _ _ hh, getH_strike]; rfl
  case slice t x lo hi mx =>
    cases lo with
    | some _ => cases hi <;> cases mx <;> exact read h
    | none =>
      cases hi with
      | some hi =>
        cases mx with
        | some _ => exact read h
        | none =>
          simp only at h
          cases hcu : memN E.cut d with
          | false => rw [hcu, cond_false] at h; exact read h
          | true =>
            rw [hcu, cond_true] at h
            have hb : Behind w0 Fz0 ι Fz ⟨[], H, df⟩ a w := ⟨fun t => by simp [getF, RV], hdf, m⟩
            obtain ⟨v1, ks1, hk, hn, hks, v', hr, ι', hb', hv', hι⟩ := cutX_of (st := ⟨[], H, df⟩) hb (he x) (he hi) h
            simp only [Option.some.injEq, Prod.mk.injEq] at hk
            obtain ⟨rfl, rfl, rfl⟩ := hk
            refine ⟨by simp [hn], fun n hn => by simp only [List.mem_singleton] at hn; rw [hn]; exact hks, .inl ⟨v', w, by simp [execOp, ho, hr], ι', Fz, _, hb'.2.2, hv', fun n hn => hι n (by simpa using hn), fun h hh => getH_ks _ _ _ hh, fun h hh => ?_⟩⟩
            rw [getH_notks _ _ _ hh, getH_strike]; rfl
      | none =>
        cases mx with
        | some _ => exact read h
        | none =>
          simp only at h
          split at h
          · rename_i g off hg
            have hx := he x
            rw [hg] at hx
            obtain ⟨v1, ks1, hk, v', hr, Fz', hf, m', hv'⟩ := slX_of (st := ⟨[], H, df⟩) m hx h
            simp only [Option.some.injEq, Prod.mk.injEq] at hk
            obtain ⟨rfl, rfl, rfl⟩ := hk
            refine ⟨rfl, fun n hn => by simp at hn, .inl ⟨v', w, by simp [execOp, ho, hr], ι, Fz', _, m', hv', fun _ _ => rfl, fun h hh => getH_ks _ _ _ hh, fun h hh => ?_⟩⟩
            rw [getH_notks _ _ _ hh]; rfl
          · exact read h
  case buildSlice t len parts =>
    cases hl : (Nat.beq len 0 || !plainSl E t) with
    | true => rw [hl, cond_true] at h; exact new h
    | false =>
      rw [hl, cond_false] at h
      obtain ⟨gs, hgs, h⟩ := Option.bind_eq_some_iff.1 h
      have hb : Behind w0 Fz0 ι Fz ⟨[], H, df⟩ a w := ⟨fun t => by simp [getF, RV], hdf, m⟩
      obtain ⟨_, F1, f1, b1, g2, _, _⟩ := gonesOf_of (st := ⟨[], H, df⟩) _ hgs hb
      obtain ⟨v1, h1, h2⟩ := opA_some h
      simp only [Option.some.injEq, Prod.mk.injEq] at h2
      obtain ⟨rfl, rfl, rfl⟩ := h2
      classical
      rw [opA_congr E _ _ _ d (e' := fun x => if x ∈ (Op.buildSlice t len parts).operands then (e x).frzV H else .dead) (fun x hx => by rw [if_pos hx]), ← ho] at h1
      refine ⟨rfl, fun n hn => by simp at hn, (opA_of hΓ.c1 b1.2.2 (fun x => ?_) h1).mono ?_⟩
      · split
        · rename_i hx
          refine frzV_of m.rb f1 (fun k hk hl hv => ?_) (he x)
          exact g2 k (mentL_parts (by rw [ho] at hx; simpa [Op.operands] using hx) hk) hl hv
        · simp only [RV]
      · rintro v' w' ⟨ι', Fz', g1, g2, g3, g4, g5⟩
        have e1 : ι' = ι := funext fun k => g3 k (.inl rfl)
        subst e1
        exact ⟨ι', Fz', _, g4, g5, fun _ _ => rfl, fun h hh => getH_ks _ _ _ hh, fun h hh => getH_notks _ _ _ hh⟩
  case call c =>
    obtain ⟨callee, args, ts⟩ := c
    cases callee with
    | builtin bi =>
      cases bi <;> simp only at h <;> first | exact read h | skip
      case append =>
        split at h
        · rename_i s x t t' hax hat
          have hargs : args = #[s, x] := by apply Array.ext'; simpa using hax
          have hts : ts = #[t, t'] := by apply Array.ext'; simpa using hat
          subst hargs hts
          cases ht : sameSl E.P t t' with
          | false =>
            rw [ht, cond_false] at h
            have hb : Behind w0 Fz0 ι Fz ⟨[], H, df⟩ a w := ⟨fun t => by simp [getF, RV], hdf, m⟩
            obtain ⟨v1, ks1, hk, hn, hks, v', w', hr, ι', Fz', hb', hv', hι⟩ := appZ_of (ty := o.type) (st := ⟨[], H, df⟩) hb (he s) (he x) h
            simp only [Option.some.injEq, Prod.mk.injEq] at hk
            obtain ⟨rfl, rfl, rfl⟩ := hk
            refine ⟨by simp [hn], fun n hn => by simp only [List.mem_singleton] at hn; rw [hn]; exact hks, .inl ⟨v', w', by simp [execOp, ho, resolve, invoke, builtin, hr], ι', Fz', _, hb'.2.2, hv', fun n hn => hι n (by simpa using hn), fun h hh => getH_ks _ _ _ hh, fun h hh => ?_⟩⟩
            rw [getH_notks _ _ _ hh, getH_strike]; rfl
          | true =>
            rw [ht, cond_true] at h
            have hb : Behind w0 Fz0 ι Fz ⟨[], H, df⟩ a w := ⟨fun t => by simp [getF, RV], hdf, m⟩
            obtain ⟨v1, ks1, hk, hn, hks, v', w', hr, ι', Fz', hb', hv', hι⟩ := appX_of (ty := o.type) (st := ⟨[], H, df⟩) hb (he s) (he x) ht h
            simp only [Option.some.injEq, Prod.mk.injEq] at hk
            obtain ⟨rfl, rfl, rfl⟩ := hk
            refine ⟨by simp [hn], fun n hn => by simp only [List.mem_singleton] at hn; rw [hn]; exact hks, .inl ⟨v', w', by simp [execOp, ho, resolve, invoke, builtin, hr], ι', Fz', _, hb'.2.2, hv', fun n hn => hι n (by simpa using hn), fun h hh => getH_ks _ _ _ hh, fun h hh => ?_⟩⟩
            rw [getH_notks _ _ _ hh, getH_strike]; rfl
        · cases h
      case copy =>
        split at h
        · rename_i s x t t' hax hat
          have hargs : args = #[s, x] := by apply Array.ext'; simpa using hax
          have hts : ts = #[t, t'] := by apply Array.ext'; simpa using hat
          subst hargs hts
          have hb : Behind w0 Fz0 ι Fz ⟨[], H, df⟩ a w := ⟨fun t => by simp [getF, RV], hdf, m⟩
          obtain ⟨n, ks1, hk, w', hr, hb'⟩ := cpX_of (st := ⟨[], H, df⟩) hb (he s) (he x) h
          simp only [Option.some.injEq, Prod.mk.injEq] at hk
          obtain ⟨rfl, rfl, rfl⟩ := hk
          refine ⟨rfl, fun n hn => by simp at hn, .inl ⟨.int .i64 n, w', by simp [execOp, ho, resolve, invoke, builtin, hr], ι, Fz, _, hb'.2.2, RV_int.2 rfl, fun _ _ => rfl, fun h hh => getH_ks _ _ _ hh, fun h hh => ?_⟩⟩
          rw [getH_notks _ _ _ hh]; rfl
        · cases h
    | value f =>
      simp only at h
      split at h
      · rename_i g caps hf
        have hef := he f
        rw [hf] at hef
        simp only [RV] at hef
        obtain ⟨cv, hfe, hcv⟩ := hef
        have hrv0 : RVs ι Fz w (args.toList.map e ++ caps) (args.toList.map a.eval ++ cv) := RVs_append (RVs_map he _) hcv
        rcases findC2_of h with h | ⟨c2, hc2, rfl, x2, os, ls, hm2, h⟩
        · exact read h
        · cases hok : ownOk os ls with
          | false => rw [hok] at h; cases h
          | true =>
            rw [hok, cond_true] at h
            have hb : Behind w0 Fz0 ι Fz ⟨[], H, df⟩ a w := ⟨fun t => by simp [getF, RV], hdf, m⟩
            obtain ⟨gs, hgs, h⟩ := Option.bind_eq_some_iff.1 h
            have hall : ∀ e ∈ gs, e.2 = AB.gone := by
              cases hs : allSafe c2.alts with
              | true => rw [hs, cond_true] at hgs; simp only [Option.some.injEq] at hgs; subst hgs; intro e he; simp at he
              | false => rw [hs, cond_false] at hgs; exact (gonesOf_of (st := ⟨[], H, df⟩) _ hgs hb).1
            obtain ⟨v1, ks1, nf1, hk, hn, hks, hg⟩ := callX_core (st := ⟨[], H, df⟩) (st1 := ⟨[], gs ++ H, df⟩) (hΓ.c2 c2 (Env.c2at_mem hc2)) hb hm2 hrv0 hok (fun hl hm => by
              cases hs : allSafe c2.alts with
              | true =>
                rw [hs, cond_true] at hgs; simp only [Option.some.injEq] at hgs; subst hgs
                have := ready_frz (c := c2) (st1 := ⟨[], H, df⟩) (os := os) (ls := ls) hb (by rw [hs]; rfl) hl hm
                rw [hs] at this
                exact this
              | false =>
                rw [hs, cond_false] at hgs
                have := ready_gone (c := c2) (os := os) (ls := ls) (st := ⟨[], H, df⟩) hb hgs hl hm
                rw [hs] at this
                exact this) h
            simp only [Option.some.injEq, Prod.mk.injEq] at hk
            obtain ⟨rfl, rfl, rfl⟩ := hk
            refine ⟨hn, fun n hn' => by rw [List.map_append, List.mem_append]; exact .inl (hks n hn'), OpGives.call ho hfe (hg.mono ?_)⟩
            rintro v' w' ⟨ι', Fz', hb', hv', hι⟩
            have goneAt : ∀ (gs : List (Nat × AB)) (h : Nat), (∀ e ∈ gs, e.2 = AB.gone) → getH gs h = AB.gone := by
              intro gs h
              induction gs with
              | nil => intro _; rfl
              | cons e gs ih =>
                intro hh
                obtain ⟨n, bb⟩ := e
                rw [getH_cons]
                split
                · exact hh (n, bb) (by simp)
                · exact ih fun e he => hh e (by simp [he])
            refine ⟨ι', Fz', _, hb'.2.2, hv', hι, fun h hh => ?_, fun h hh => ?_⟩
            · by_cases hk : h ∈ ks1.map Prod.fst
              · rw [getH_ks _ _ _ hk, getH_ks _ _ _ hk]
              · rw [List.map_append, List.mem_append] at hh
                have hg2 := hh.resolve_left hk
                rw [getH_notks _ _ _ hk, getH_notks _ _ _ hk, (freshL_spec nf1 ⟨[], gs ++ H, df⟩).2.1, getH_ks _ _ _ hg2, goneAt gs h hall]
                exact strikeLs_gone _
            · rw [List.map_append, List.mem_append, not_or] at hh
              rw [getH_notks _ _ _ hh.1, (freshL_spec nf1 ⟨[], gs ++ H, df⟩).2.1, getH_notks _ _ _ hh.2]
      · cases h
    | invoke f nm =>
      simp only at h
      have key : ∀ t u u', a.eval f = .iface t u' → RV ι Fz w u u' → (methK E t nm u fun g => invM E args e H df d g fun v ks nf => some (v, ks, nf)) = some (v, ks, nf) →
          nf.all (okNew df) = true ∧ (∀ n ∈ nf, n ∈ ks.map Prod.fst) ∧ OpGives E.P o a w (GivesM w0 Fz0 ι H v ks nf) := by
        intro t u u' hfe hu h
        obtain ⟨g, x, h, x', hm0, hx0⟩ := methK_of (w := w) h hu
        unfold invM at h
        have hrv0 : RVs ι Fz w (x :: args.toList.map e) (x' :: args.toList.map a.eval) := by
          simp only [RVs]
          exact ⟨x', _, rfl, hx0, RVs_map he _⟩
        have hq := findC2_of h
        clear h
        rcases hq with h | ⟨c2, hc2, hcf, x2, os, ls, hm2, h⟩
        · obtain ⟨v1, hk, hg⟩ := callR_core (K := fun v _ => some (v, ([] : List (Nat × AB)), ([] : List Nat))) (d := d) (E := E) hΓ.c1 m hrv0 (fun G hG => OpGives.callI ho hfe hm0 hG) h
          simp only [Option.some.injEq, Prod.mk.injEq] at hk
          obtain ⟨rfl, rfl, rfl⟩ := hk
          refine ⟨rfl, fun n hn => by simp at hn, hg.mono ?_⟩
          rintro v' w' ⟨ι', Fz', g1, g2, g3, g4, g5⟩
          have e1 : ι' = ι := funext fun k => g3 k (.inl rfl)
          subst e1
          exact ⟨ι', Fz', H, g4, g5, fun _ _ => rfl, fun h hh => by simp at hh, fun h _ => rfl⟩
        · dsimp only at hcf
          subst hcf
          cases hok : ownOk os ls with
          | false => rw [hok] at h; cases h
          | true =>
            rw [hok, cond_true] at h
            have hb : Behind w0 Fz0 ι Fz ⟨[], H, df⟩ a w := ⟨fun t => by simp [getF, RV], hdf, m⟩
            obtain ⟨gs, hgs, h⟩ := Option.bind_eq_some_iff.1 h
            have hall : ∀ e ∈ gs, e.2 = AB.gone := by
              cases hs : allSafe c2.alts with
              | true => rw [hs, cond_true] at hgs; simp only [Option.some.injEq] at hgs; subst hgs; intro e he; simp at he
              | false => rw [hs, cond_false] at hgs; exact (gonesOf_of (st := ⟨[], H, df⟩) _ hgs hb).1
            obtain ⟨v1, ks1, nf1, hk, hn, hks, hg⟩ := callX_core (st := ⟨[], H, df⟩) (st1 := ⟨[], gs ++ H, df⟩) (hΓ.c2 c2 hc2) hb hm2 hrv0 hok (fun hl hm => by
              cases hs : allSafe c2.alts with
              | true =>
                rw [hs, cond_true] at hgs; simp only [Option.some.injEq] at hgs; subst hgs
                have := ready_frz (c := c2) (st1 := ⟨[], H, df⟩) (os := os) (ls := ls) hb (by rw [hs]; rfl) hl hm
                rw [hs] at this
                exact this
              | false =>
                rw [hs, cond_false] at hgs
                have := ready_gone (c := c2) (os := os) (ls := ls) (st := ⟨[], H, df⟩) hb hgs hl hm
                rw [hs] at this
                exact this) h
            simp only [Option.some.injEq, Prod.mk.injEq] at hk
            obtain ⟨rfl, rfl, rfl⟩ := hk
            refine ⟨hn, fun n hn' => by rw [List.map_append, List.mem_append]; exact .inl (hks n hn'), OpGives.callI ho hfe hm0 (hg.mono ?_)⟩
            rintro v' w' ⟨ι', Fz', hb', hv', hι⟩
            have goneAt : ∀ (gs : List (Nat × AB)) (h : Nat), (∀ e ∈ gs, e.2 = AB.gone) → getH gs h = AB.gone := by
              intro gs h
              induction gs with
              | nil => intro _; rfl
              | cons e gs ih =>
                intro hh
                obtain ⟨n, bb⟩ := e
                rw [getH_cons]
                split
                · exact hh (n, bb) (by simp)
                · exact ih fun e he => hh e (by simp [he])
            refine ⟨ι', Fz', _, hb'.2.2, hv', hι, fun h hh => ?_, fun h hh => ?_⟩
            · by_cases hk : h ∈ ks1.map Prod.fst
              · rw [getH_ks _ _ _ hk, getH_ks _ _ _ hk]
              · rw [List.map_append, List.mem_append] at hh
                have hg2 := hh.resolve_left hk
                rw [getH_notks _ _ _ hk, getH_notks _ _ _ hk, (freshL_spec nf1 ⟨[], gs ++ H, df⟩).2.1, getH_ks _ _ _ hg2, goneAt gs h hall]
                exact strikeLs_gone _
            · rw [List.map_append, List.mem_append, not_or] at hh
              rw [getH_notks _ _ _ hh.1, (freshL_spec nf1 ⟨[], gs ++ H, df⟩).2.1, getH_notks _ _ _ hh.2]
      split at h
      · rename_i t u hf
        have hef := he f
        rw [hf] at hef
        simp only [RV] at hef
        obtain ⟨u', hfe, hu⟩ := hef
        exact key t u u' hfe hu h
      · rename_i c hf
        have hef := he f
        rw [hf] at hef
        obtain ⟨t, u, h, u', hfe, hu⟩ := dynK_of hef _ h
        exact key t u u' hfe hu h
      · cases h
end
end Go.Av
