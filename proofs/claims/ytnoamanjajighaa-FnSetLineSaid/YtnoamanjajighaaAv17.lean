/- What an operation that only reads tells hangs on its operands alone, and not on what comes behind it. -/
import Derived.Test.YtnoamanjajighaaAv12
set_option linter.unusedVariables false
set_option linter.unusedSimpArgs false
namespace Go.Av
open Go Go.RowKit

section
variable {R S : Type}
theorem cond_bind (c : Bool) (a b : Option R) (G : R → Option S) : (bif c then a else b).bind G = bif c then a.bind G else b.bind G := by cases c <;> rfl
theorem ite_bind (c : Prop) [Decidable c] (a b : Option R) (G : R → Option S) : (if c then a else b).bind G = if c then a.bind G else b.bind G := by split <;> rfl
theorem elemK_bind (P : Program) (t : TypeId) (F : TypeId → Option R) (G : R → Option S) : (elemK P t F).bind G = elemK P t fun x => (F x).bind G := by
  unfold elemK; split <;> rfl
theorem sizeK_bind (P : Program) (t : TypeId) (F : Nat → Option R) (G : R → Option S) : (sizeK P t F).bind G = sizeK P t fun x => (F x).bind G := by
  unfold sizeK; split <;> rfl
theorem fieldK_bind (P : Program) (t : TypeId) (f : Nat) (F : Field → Option R) (G : R → Option S) : (fieldK P t f F).bind G = fieldK P t f fun x => (F x).bind G := by
  unfold fieldK; split
  · split <;> rfl
  · rfl
theorem prjK_bind : ∀ (κ : Kd) (x : Den κ) (n : Nat) (F : (κ' : Kd) → Den κ' → Nat → Option R) (G : R → Option S), (prjK κ x n F).bind G = prjK κ x n fun a b c => (F a b c).bind G
  | .pair a b, x, 0, F, G => rfl
  | .pair a b, x, n + 1, F, G => by simp only [prjK]; exact prjK_bind b x.2 n _ G
  | .geo, g, 0, F, G => rfl
  | .geo, g, 1, F, G => rfl
  | .geo, g, 2, F, G => rfl
  | .geo, g, 3, F, G => rfl
  | .geo, g, 4, F, G => rfl
  | .geo, g, 5, F, G => rfl
  | .geo, g, 6, F, G => rfl
  | .geo, g, n + 7, F, G => rfl
  | .any, _, _, _, _ => rfl
  | .nl _, _, _, _, _ => rfl
  | .int _, _, _, _, _ => rfl
  | .float, _, _, _, _ => rfl
  | .bool, _, _, _, _ => rfl
  | .str, _, _, _, _ => rfl
  | .list _, _, _, _, _ => rfl
  | .unit, _, _, _, _ => rfl
theorem findCon_bind (cons : List Con) (f : FuncId) (H : List (Nat × AB)) (vs : List AV) (F : (c : Con) → HL c.ps → Option R) (G : R → Option S) :
    (findCon cons f H vs F).bind G = findCon cons f H vs fun c x => (F c x).bind G := by
  induction cons with
  | nil => rfl
  | cons c r ih =>
    simp only [findCon, cond_bind, ih]
    cases Nat.beq c.fid f
    · rfl
    · simp only [cond_true]; split <;> simp only [*]
theorem binV_bind (P : Program) (t : TypeId) (cst : Bool) (op : BinOp) (x y : AV) (F : AV → Option R) (G : R → Option S) : (binV P t cst op x y F).bind G = binV P t cst op x y fun v => (F v).bind G := by
  unfold binV
  have hI : ∀ op k m n, (binI op k m n F).bind G = binI op k m n fun v => (F v).bind G := by
    intro op k m n; unfold binI; split <;> first | rfl | (split <;> rfl)
  have hS : ∀ op k m n, (shI op k m n F).bind G = shI op k m n fun v => (F v).bind G := by
    intro op k m n; unfold shI; split <;> first | rfl | (split <;> rfl)
  have hF : ∀ op m n, (binF op m n F).bind G = binF op m n fun v => (F v).bind G := by
    intro op m n; unfold binF; split <;> first | rfl | simp only [Option.bind_assoc]
  have hC : ∀ op b, (cmpK op b F).bind G = cmpK op b fun v => (F v).bind G := by
    intro op b; unfold cmpK; split <;> rfl
  have hN : ∀ op, (nanK op F).bind G = nanK op fun v => (F v).bind G := by
    intro op; unfold nanK; split <;> rfl
  (repeat' split) <;> simp only [cond_bind, hI, hS, hF, hC, hN, Option.bind_assoc, Option.bind_none, *]
theorem nilD_bind (P : Program) (t : TypeId) (op : BinOp) (n : Nat) (F : AV → Option R) (G : R → Option S) : (nilD P t op n F).bind G = nilD P t op n fun v => (F v).bind G := by
  have hC : ∀ op b, (cmpK op b F).bind G = cmpK op b fun v => (F v).bind G := by
    intro op b; unfold cmpK; split <;> rfl
  unfold nilD
  split
  · rw [cond_bind, hC, Option.bind_none]
  · rfl
theorem idxK_bind (j : Int) (F : Nat → Option R) (G : R → Option S) : ∀ (m q : Nat), (idxK j F m q).bind G = idxK j (fun p => (F p).bind G) m q
  | 0, _ => rfl
  | m + 1, q => by simp only [idxK, cond_bind, idxK_bind j F G m]
theorem mmV_bind (mx : Bool) (x y : AV) (F : AV → Option R) (G : R → Option S) : (mmV mx x y F).bind G = mmV mx x y fun v => (F v).bind G := by
  unfold mmV
  (repeat' split) <;> simp only [cond_bind, Option.bind_assoc, Option.bind_none]
theorem zeroK_bind (P : Program) (t : TypeId) (F : AV → Option R) (G : R → Option S) : (zeroK P t F).bind G = zeroK P t fun v => (F v).bind G := by
  unfold zeroK
  (repeat' split) <;> rfl
theorem kdK_bind (E : Env) (t : TypeId) (F : Kd → Option R) (G : R → Option S) : (kdK E t F).bind G = kdK E t fun κ => (F κ).bind G := by
  unfold kdK; split <;> rfl
theorem dynK_bind (E : Env) (c : Ce) (F : TypeId → AV → Option R) (G : R → Option S) : ∀ l, (dynK E c F l).bind G = dynK E c (fun t u => (F t u).bind G) l
  | [] => rfl
  | t :: l => by
    simp only [dynK, Option.bind_assoc, cond_bind, kdK_bind, dynK_bind E c F G l, Option.bind_none]
theorem methK_bind (E : Env) (t : TypeId) (nm : String) (v : AV) (F : FuncId × AV → Option R) (G : R → Option S) : (methK E t nm v F).bind G = methK E t nm v fun g => (F g).bind G := by
  unfold methK
  split
  · split <;> simp only [kdK_bind, Option.bind_assoc, Option.bind_none]
  · simp only [Option.bind_assoc]
theorem opR_bind (E : Env) (op : Op) (e : Operand → AV) (H : List (Nat × AB)) (F : AV → Option AB → Option R) (G : R → Option S) (d : Nat) : (opR E op e H F d).bind G = opR E op e H (fun v ob => (F v ob).bind G) d := by
  cases op <;> first
    | rfl
    | (simp only [opR, cond_bind, ite_bind, elemK_bind, sizeK_bind, fieldK_bind, prjK_bind, findCon_bind, binV_bind, nilD_bind, idxK_bind, mmV_bind, kdK_bind, dynK_bind, methK_bind, Option.bind_assoc]; done)
    | (simp only [opR, cond_bind, ite_bind, elemK_bind, sizeK_bind, fieldK_bind, prjK_bind, findCon_bind, binV_bind, nilD_bind, idxK_bind, mmV_bind, kdK_bind, dynK_bind, methK_bind, Option.bind_assoc]; (repeat' split) <;> simp only [cond_bind, ite_bind, elemK_bind, sizeK_bind, fieldK_bind, prjK_bind, findCon_bind, binV_bind, nilD_bind, idxK_bind, mmV_bind, kdK_bind, dynK_bind, methK_bind, Option.bind_assoc, Option.bind_none, Option.bind_some]; done)
    | skip
  case buildSlice t len parts =>
    simp only [opR, elemK_bind]
    refine congrArg _ (funext fun el => ?_)
    split
    · simp only [cond_bind, Option.bind_assoc, Option.bind_none]
    · simp only [cond_bind, Option.bind_none]
  case makeSlice t l c =>
    simp only [opR, elemK_bind]
    refine congrArg _ (funext fun el => ?_)
    split
    · split
      · rw [cond_bind]
        split <;> simp only [Option.bind_assoc, Option.bind_none]
      · rfl
    · rfl
  case makeFunc f first caps =>
    cases f with
    | method nm =>
      simp only [opR]
      cases hf : first.toList with
      | nil => rfl
      | cons x r =>
        cases r with
        | cons _ _ => rfl
        | nil =>
          cases hc : caps.toList with
          | cons _ _ => rfl
          | nil =>
            simp only
            (repeat' split) <;> rfl
    | _ => simp only [opR, cond_bind, Option.bind_none]
  case slice t x lo hi mx =>
    cases mx with
    | some m =>
      cases hi with
      | none => rfl
      | some hi =>
        simp only [opR]
        rw [elemK_bind]
        refine congrArg _ (funext fun el => ?_)
        split
        · rw [cond_bind, Option.bind_assoc, Option.bind_none]
        · rfl
    | none =>
      have hb : ∀ (len : Nat) (K : Nat × Nat → Option R),
          (match (lo.map e).getD (.pv (.int .i64) 0), (hi.map e).getD (.pv (.int .i64) (len : Int)) with | .pv (.int _) l, .pv (.int _) h => (chk2 l h len).bind K | _, _ => none).bind G =
          (match (lo.map e).getD (.pv (.int .i64) 0), (hi.map e).getD (.pv (.int .i64) (len : Int)) with | .pv (.int _) l, .pv (.int _) h => (chk2 l h len).bind fun p => (K p).bind G | _, _ => none) := by
        intro len K
        split <;> simp only [Option.bind_assoc, Option.bind_none]
      simp only [opR]
      split
      · split
        · exact hb _ _
        · rfl
      · split
        · split
          · rw [cond_bind, Option.bind_none, Option.bind_assoc]
            refine congrArg (fun z => cond _ z _) (congrArg _ (funext fun ys => ?_))
            exact hb _ _
          · rfl
        · rfl
      · rw [elemK_bind]
        refine congrArg _ (funext fun el => ?_)
        (repeat' split) <;> simp only [cond_bind, Option.bind_none, Option.bind_assoc, hb]
  case field s x f =>
    simp only [opR, fieldK_bind]
    refine congrArg _ (funext fun fd => ?_)
    split
    · simp only [cond_bind, sizeK_bind, Option.bind_none]
      (repeat' split) <;> rfl
    · rw [prjK_bind]
      simp only [cond_bind, Option.bind_none]
    · rfl
  case typeAssert x t asserted ok =>
    cases ok with
    | true =>
      simp only [opR]
      (repeat' split) <;> first | rfl | (simp only [cond_bind, Option.bind_none, Option.bind_assoc, zeroK_bind, kdK_bind] <;> (repeat' split) <;> simp only [Option.bind_none])
    | false =>
      simp only [opR]
      (repeat' split) <;> first | rfl | simp only [cond_bind, Option.bind_none, Option.bind_assoc, kdK_bind]
theorem opR_congr (E : Env) (op : Op) {e e' : Operand → AV} (H : List (Nat × AB)) (F : AV → Option AB → Option R) (d : Nat) (h : ∀ x ∈ op.operands, e x = e' x) : opR E op e H F d = opR E op e' H F d := by
  cases op <;> try (first
    | rfl
    | (simp only [opR]; simp only [Op.operands, List.mem_toArray, List.mem_cons, List.not_mem_nil, or_false, forall_eq_or_imp, forall_eq] at h; simp only [h]; done)
    | (simp only [opR]; simp [Op.operands] at h; simp only [h]; done))
  case build t parts =>
    have hm : (parts.toList.map fun p => (p.1, e p.2)) = parts.toList.map fun p => (p.1, e' p.2) := List.map_congr_left fun p hp => by
      rw [h p.2 (by simp only [Op.operands, List.mem_toArray, List.mem_map]; exact ⟨p, hp, rfl⟩)]
    simp only [opR, hm]
  case buildSlice t len parts =>
    have hm : (parts.toList.map fun p => (p.1, e p.2)) = parts.toList.map fun p => (p.1, e' p.2) := List.map_congr_left fun p hp => by
      rw [h p.2 (by simp only [Op.operands, List.mem_toArray, List.mem_map]; exact ⟨p, hp, rfl⟩)]
    have hm2 : (parts.toList.map fun p => e p.2) = parts.toList.map fun p => e' p.2 := List.map_congr_left fun p hp => by
      rw [h p.2 (by simp only [Op.operands, List.mem_toArray, List.mem_map]; exact ⟨p, hp, rfl⟩)]
    have ha : (parts.toList.all fun p => (e p.2).free || !(e p.2).handled) = parts.toList.all fun p => (e' p.2).free || !(e' p.2).handled := by
      rw [Bool.eq_iff_iff, List.all_eq_true, List.all_eq_true]
      refine forall_congr' fun p => forall_congr' fun hp => ?_
      rw [h p.2 (by simp only [Op.operands, List.mem_toArray, List.mem_map]; exact ⟨p, hp, rfl⟩)]
    simp only [opR, hm, ha, hm2]
  case makeFunc f first caps =>
    have hm : caps.toList.map e = caps.toList.map e' := List.map_congr_left fun p hp => h p (by simp only [Op.operands, Array.mem_append]; exact .inr (by simpa using hp))
    cases f with
    | method nm =>
      simp only [opR]
      cases hf : first.toList with
      | nil => rfl
      | cons x r =>
        cases r with
        | cons _ _ => rfl
        | nil =>
          have hx : e x = e' x := h x (by simp only [Op.operands, Array.mem_append]; exact .inl (by rw [← Array.mem_toList_iff, hf]; simp))
          cases hc : caps.toList with
          | cons _ _ => rfl
          | nil =>
            simp only
            rw [hx]
    | _ => simp only [opR, hm]
  case slice t x lo hi mx =>
    have hx : e x = e' x := h x (by simp [Op.operands])
    have hlo : lo.map e = lo.map e' := by
      cases lo with
      | none => rfl
      | some l => simp only [Option.map_some]; rw [h l (by simp [Op.operands])]
    have hhi : hi.map e = hi.map e' := by
      cases hi with
      | none => rfl
      | some l => simp only [Option.map_some]; rw [h l (by simp [Op.operands])]
    cases mx with
    | none => simp only [opR, hx, hlo, hhi]
    | some mx =>
      have hmx : e mx = e' mx := h mx (by simp [Op.operands])
      cases hi with
      | none => simp only [opR]
      | some hi =>
        have hhi' : e hi = e' hi := h hi (by simp [Op.operands])
        simp only [opR, hx, hlo, hhi', hmx]
  case typeAssert x t asserted ok =>
    have hx : e x = e' x := h x (by simp [Op.operands])
    cases ok <;> simp only [opR, hx]
  case call c =>
    have hm : c.args.toList.map e = c.args.toList.map e' := List.map_congr_left fun p hp => h p (by
      simp only [Op.operands, Call.operands, Array.mem_append]
      exact .inr (by simpa using hp))
    have hf : ∀ f, c.callee = .value f → e f = e' f := fun f hf => h f (by simp [Op.operands, Call.operands, hf])
    have ha : ∀ x ∈ c.args.toList, e x = e' x := fun x hx => h x (by
      simp only [Op.operands, Call.operands, Array.mem_append]
      exact .inr (by simpa using hx))
    simp only [opR]
    split
    · split
      · rename_i x t hargs ht
        rw [hargs] at ha
        rw [ha x (by simp)]
      · rfl
    · split
      · rename_i x t hargs ht
        rw [hargs] at ha
        rw [ha x (by simp)]
      · rfl
    · split
      · rename_i x y hargs
        rw [hargs] at ha
        rw [ha x (by simp), ha y (by simp)]
      · rename_i x y z hargs
        rw [hargs] at ha
        rw [ha x (by simp), ha y (by simp), ha z (by simp)]
      · rfl
    · split
      · rename_i x y hargs
        rw [hargs] at ha
        rw [ha x (by simp), ha y (by simp)]
      · rename_i x y z hargs
        rw [hargs] at ha
        rw [ha x (by simp), ha y (by simp), ha z (by simp)]
      · rfl
    · rename_i f hc
      rw [hf f hc, hm]
    · rename_i f nm hc
      have hf' : e f = e' f := h f (by simp [Op.operands, Call.operands, hc])
      rw [hf', hm]
    · rfl
end
end Go.Av
