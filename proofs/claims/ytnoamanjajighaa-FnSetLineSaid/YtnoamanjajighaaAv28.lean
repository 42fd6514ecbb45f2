/- Methods of values in interfaces, and zero values: what the model runs. -/
import Derived.Test.YtnoamanjajighaaAv7
import Derived.ChangeKeysEq
set_option linter.unusedVariables false
set_option linter.unusedSimpArgs false
namespace Go.Av
open Go
section
variable {R : Type} {P : Program} {ι : Nat → HI} {Fz : Nat → Prop} {w : World}
theorem zeroK_of {t : TypeId} {K : AV → Option R} {r : R} (h : zeroK P t K = some r) : ∃ v z, K v = some r ∧ (zeroValue t).run P w = .ok z w ∧ RV ι Fz w v z := by
  unfold zeroK at h
  split at h
  · rename_i i hi
    split at h
    · rename_i z hz
      refine ⟨avOf z, z, ?_, ?_, avOf_of z⟩
      · split at h
        · cases h
        · rename_i he; exact h
      · have := run_typeInfo (P := P) (w := w) hi
        simp [zeroValue, this, hz]
    · cases h
  · cases h
theorem run_fieldPlace {a : Addr} {f : Field} {i : TypeInfo} (hi : P.info? f.type = some i) (h0 : i.size ≠ 0) : (fieldPlace a f).run P w = .ok (a.add f.offset) w := by
  have := run_typeInfo (P := P) (w := w) hi
  simp [fieldPlace, sizeOf, this, h0]
/-- One step of a path. -/
def stepB (P : Program) (s : FieldStep) (first : Bool) (f : Field) : Bool := (s.deref == first) && aggIs P f.type true && (match P.info? f.type with | some i => !Nat.beq i.size 0 | none => false)
theorem pathOff_cons {s : FieldStep} {l : List FieldStep} {first : Bool} {o : Nat} (h : pathOff P (s :: l) first = some o) :
    ∃ fs f i o', P.underlying s.struct = some (.struct fs) ∧ fs[s.index]? = some f ∧ s.deref = first ∧ aggIs P f.type true = true ∧ P.info? f.type = some i ∧ i.size ≠ 0 ∧ pathOff P l false = some o' ∧ o = f.offset + o' := by
  simp only [pathOff] at h
  split at h
  · rename_i fs hu
    split at h
    · rename_i f hf
      generalize hcc : ((s.deref == first) && aggIs P f.type true && (match P.info? f.type with | some i => !Nat.beq i.size 0 | none => false)) = c at h
      cases c with
      | false => cases h
      | true =>
        rw [cond_true] at h
        obtain ⟨o', ho, h⟩ := Option.bind_eq_some_iff.1 h
        simp only [Option.some.injEq] at h
        simp only [Bool.and_eq_true] at hcc
        obtain ⟨⟨c1, c2⟩, c3⟩ := hcc
        cases hi : P.info? f.type with
        | none => rw [hi] at c3; cases c3
        | some i =>
          rw [hi] at c3
          refine ⟨fs, f, i, o', hu, hf, by simpa using c1, c2, hi, fun e => ?_, ho, h.symm⟩
          simp only [e] at c3
          cases c3
    · cases h
  · cases h
theorem follow_var : ∀ (l : List FieldStep) (o : Nat) (t : TypeId) (b off : Nat), pathOff P l false = some o →
    ∃ t', (follow l t (.var ⟨b, off, none⟩)).run P w = .ok (t', .var ⟨b, off + o, none⟩) w ∧ (t' = t ∨ aggIs P t' true = true)
  | [], o, t, b, off, h => by
    simp only [pathOff, Option.some.injEq] at h
    subst h
    exact ⟨t, by simp [follow], .inl rfl⟩
  | s :: r, o, t, b, off, h => by
    obtain ⟨fs, f, i, o', hu, hf, hd, ha, hi, h0, ho, rfl⟩ := pathOff_cons h
    obtain ⟨t', h1, h2⟩ := follow_var r o' f.type b (off + f.offset) ho
    have hp := run_fieldPlace (P := P) (w := w) (a := ⟨b, off, none⟩) hi h0
    rw [Addr.add_lit] at hp
    have hun := run_underlying hu w
    refine ⟨t', ?_, .inr ?_⟩
    · rw [show off + (f.offset + o') = off + f.offset + o' by omega, ← h1]
      simp [follow, hun, hf, hd, hp]
    · rcases h2 with rfl | h2
      · exact ha
      · exact h2
theorem agg_notPtr {t : TypeId} (h : aggIs P t true = true) : ∃ d, P.underlying t = some d ∧ ∀ e, d ≠ .pointer e := by
  unfold aggIs at h
  split at h
  · rename_i fs hu; exact ⟨_, hu, fun e he => by cases he⟩
  · rename_i a b hu; exact ⟨_, hu, fun e he => by cases he⟩
  · cases h
  · cases h
theorem pathE_cons {s : FieldStep} {l : List FieldStep} {first : Bool} {κ : Kd} {y : Den κ} {u : AV} {es : List Value} {b off : Nat} (h : pathE P (s :: l) first κ y = some u) (hr : RP Fz w κ y es) (hl : Lie w es b off) :
    ∃ fs f i, P.underlying s.struct = some (.struct fs) ∧ fs[s.index]? = some f ∧ s.deref = first ∧ aggIs P f.type true = true ∧ P.info? f.type = some i ∧ i.size ≠ 0 ∧
      ∃ (κ' : Kd) (z : Den κ') (o : Nat) (e2 : List Value), RP Fz w κ' z e2 ∧ Lie w e2 b (off + f.offset) ∧ pathE P l false κ' z = some u := by
  simp only [pathE] at h
  split at h
  · rename_i fs hu
    split at h
    · rename_i f hf
      generalize hcc : ((s.deref == first) && aggIs P f.type true && (match P.info? f.type with | some i => !Nat.beq i.size 0 | none => false)) = c at h
      cases c with
      | false => cases h
      | true =>
        rw [cond_true] at h
        simp only [Bool.and_eq_true] at hcc
        obtain ⟨⟨c1, c2⟩, c3⟩ := hcc
        cases hi : P.info? f.type with
        | none => rw [hi] at c3; cases c3
        | some i =>
          rw [hi] at c3
          obtain ⟨κ', z, o, hk, hprj⟩ := prjK_of κ y s.index _ u h
          cases ho : Nat.beq o f.offset with
          | false => rw [ho] at hk; cases hk
          | true =>
            rw [ho, cond_true] at hk
            have hoe := Nat.eq_of_beq_eq_true ho
            obtain ⟨e1, e2, e3, rfl, h1, h2⟩ := hprj Fz w es hr
            refine ⟨fs, f, i, hu, hf, by simpa using c1, c2, hi, fun e => ?_, κ', z, o, e2, h2, by rw [← hoe, ← h1]; exact hl.mid, hk⟩
            simp only [e] at c3
            cases c3
    · cases h
  · cases h
theorem followE_var : ∀ (l : List FieldStep) (t : TypeId) (b off : Nat) (κ : Kd) (y : Den κ) (es : List Value), Fz b → RP Fz w κ y es → Lie w es b off → ∀ {u : AV}, pathE P l false κ y = some u →
    ∃ t' o, (follow l t (.var ⟨b, off, none⟩)).run P w = .ok (t', .var ⟨b, off + o, none⟩) w ∧ (t' = t ∨ aggIs P t' true = true) ∧ RV ι Fz w u (.pointer (some ⟨b, off + o, none⟩))
  | [], t, b, off, κ, y, es, hb, hr, hl, u, h => by
    simp only [pathE, Option.some.injEq] at h
    subst h
    exact ⟨t, 0, by simp [follow], .inl rfl, by simp only [RV]; exact ⟨b, _, es, rfl, hb, hr, by simpa using hl⟩⟩
  | s :: r, t, b, off, κ, y, es, hb, hr, hl, u, h => by
    obtain ⟨fs, f, i, hu, hf, hd, ha, hi, h0, κ', z, o, e2, h2, hl2, hk⟩ := pathE_cons h hr hl
    obtain ⟨t', o', h3, h4, h5⟩ := followE_var r f.type b (off + f.offset) κ' z e2 hb h2 hl2 hk
    have hp := run_fieldPlace (P := P) (w := w) (a := ⟨b, off, none⟩) hi h0
    rw [Addr.add_lit] at hp
    have hun := run_underlying hu w
    refine ⟨t', f.offset + o', ?_, .inr ?_, by rw [show off + (f.offset + o') = off + f.offset + o' by omega]; exact h5⟩
    · rw [show off + (f.offset + o') = off + f.offset + o' by omega, ← h3]
      simp [follow, hun, hf, hd, hp]
    · rcases h4 with rfl | h4
      · exact ha
      · exact h4
/-- The method that a call through an interface runs, and its receiver. -/
theorem method_of {t : TypeId} {name : String} {v : AV} {v' : Value} {g : FuncId} {x : AV} (h : methAV P t name v = some (g, x)) (hv : RV ι Fz w v v') :
    ∃ x', (method (P.types.size + Made.depth) t v' name).run P w = .ok (g, x') w ∧ RV ι Fz w x x' := by
  unfold methAV at h
  split at h
  rotate_left
  · cases h
  rename_i i hi
  split at h
  rotate_left
  · cases h
  rename_i m hm
  have hti := run_typeInfo (P := P) (w := w) hi
  obtain ⟨n, hfu⟩ : ∃ n, P.types.size + Made.depth = n + 1 := ⟨P.types.size + 99, rfl⟩
  split at h
  · rename_i f hf
    split at h
    rotate_left
    · -- frozen memory
      rename_i κ y el hu
      obtain ⟨u, ho, h⟩ := Option.bind_eq_some_iff.1 h
      simp only [Option.some.injEq, Prod.mk.injEq] at h
      obtain ⟨rfl, rfl⟩ := h
      simp only [RV] at hv
      obtain ⟨b, off, es, rfl, hb, hr, hl⟩ := hv
      cases hp : m.path.toList with
      | nil =>
        rw [hp] at ho
        simp only [pathE, Option.some.injEq] at ho
        subst ho
        refine ⟨.pointer (some ⟨b, off, none⟩), ?_, by simp only [RV]; exact ⟨b, off, es, rfl, hb, hr, hl⟩⟩
        have hun := run_underlying hu w
        rw [hfu]
        simp [method, hti, hm, hp, follow, hf, receiverAt, hun, Place.get]
      | cons s l =>
        rw [hp] at ho
        obtain ⟨fs, fd, j, hus, hfs, hd, ha, hj, h0, κ', z, o, e2, e3, hlz, hpz⟩ := pathE_cons (w := w) ho hr hl
        obtain ⟨t', o', h1, h2, h3⟩ := followE_var (ι := ι) (w := w) (Fz := Fz) l fd.type b (off + fd.offset) κ' z e2 hb e3 hlz hpz
        have hpl := run_fieldPlace (P := P) (w := w) (a := ⟨b, off, none⟩) hj h0
        rw [Addr.add_lit] at hpl
        have hun := run_underlying hus w
        have ht' : aggIs P t' true = true := by
          rcases h2 with rfl | h2
          · exact ha
          · exact h2
        obtain ⟨d, hd', hnp⟩ := agg_notPtr ht'
        have hun' := run_underlying hd' w
        have hfl : (follow (s :: l) t (.val (.pointer (some ⟨b, off, none⟩)))).run P w = .ok (t', .var ⟨b, off + (fd.offset + o'), none⟩) w := by
          rw [show off + (fd.offset + o') = off + fd.offset + o' by omega, ← h1]
          simp [follow, hun, hfs, hd, Place.get, asAddr, hpl]
        refine ⟨.pointer (some ⟨b, off + (fd.offset + o'), none⟩), ?_, by rw [show off + (fd.offset + o') = off + fd.offset + o' by omega]; exact h3⟩
        rw [hfu]
        have hrc : (receiverAt t' (.var ⟨b, off + (fd.offset + o'), none⟩) true (if m.path.isEmpty then some ((name.splitOn ".").getLastD name) else none)).run P w = .ok (.pointer (some ⟨b, off + (fd.offset + o'), none⟩)) w := by
          unfold receiverAt
          simp only [Sem.run_bind, hun', Result.andThen_ok]
          cases d <;> first | (exact absurd rfl (hnp _); done) | rfl
        simp only [method, Sem.run_bind, hti, Result.andThen_ok, hm, hp, hfl, hf, hrc, Sem.run_pure]
    · cases h
    rename_i hh off e hu
    obtain ⟨o, ho, h⟩ := Option.bind_eq_some_iff.1 h
    simp only [Option.some.injEq, Prod.mk.injEq] at h
    obtain ⟨rfl, rfl⟩ := h
    simp only [RV] at hv
    obtain ⟨hvi, rfl⟩ := hv
    refine ⟨.pointer (some ⟨(ι hh).blk, off + o, none⟩), ?_, by simp only [RV]; exact ⟨hvi, trivial⟩⟩
    cases hp : m.path.toList with
    | nil =>
      rw [hp] at ho
      simp only [pathOff, Option.some.injEq] at ho
      subst ho
      have hun := run_underlying hu w
      rw [hfu]
      simp [method, hti, hm, hp, follow, hf, receiverAt, hun, Place.get]
    | cons s l =>
      rw [hp] at ho
      obtain ⟨fs, fd, j, o', hus, hfs, hd, ha, hj, h0, ho', rfl⟩ := pathOff_cons ho
      obtain ⟨t', h1, h2⟩ := follow_var (w := w) l o' fd.type (ι hh).blk (off + fd.offset) ho'
      have hpl := run_fieldPlace (P := P) (w := w) (a := ⟨(ι hh).blk, off, none⟩) hj h0
      rw [Addr.add_lit] at hpl
      have hun := run_underlying hus w
      have ht' : aggIs P t' true = true := by
        rcases h2 with rfl | h2
        · exact ha
        · exact h2
      obtain ⟨d, hd', hnp⟩ := agg_notPtr ht'
      have hun' := run_underlying hd' w
      have hfl : (follow (s :: l) t (.val (.pointer (some ⟨(ι hh).blk, off, none⟩)))).run P w = .ok (t', .var ⟨(ι hh).blk, off + (fd.offset + o'), none⟩) w := by
        rw [show off + (fd.offset + o') = off + fd.offset + o' by omega, ← h1]
        simp [follow, hun, hfs, hd, Place.get, asAddr, hpl]
      rw [hfu]
      have hrc : (receiverAt t' (.var ⟨(ι hh).blk, off + (fd.offset + o'), none⟩) true (if m.path.isEmpty then some ((name.splitOn ".").getLastD name) else none)).run P w = .ok (.pointer (some ⟨(ι hh).blk, off + (fd.offset + o'), none⟩)) w := by
        unfold receiverAt
        simp only [Sem.run_bind, hun', Result.andThen_ok]
        cases d <;> first | (exact absurd rfl (hnp _); done) | rfl
      simp only [method, Sem.run_bind, hti, Result.andThen_ok, hm, hp, hfl, hf, hrc, Sem.run_pure]
  · rename_i f hf
    have hrc : ∀ d, P.underlying t = some d → (∀ e, d ≠ .pointer e) → ∀ wr, (receiverAt t (.val v') false wr).run P w = .ok v' w := by
      intro d hu hnp wr
      have hun := run_underlying hu w
      unfold receiverAt
      simp only [Sem.run_bind, hun, Result.andThen_ok]
      cases d <;> first | (exact absurd rfl (hnp _); done) | rfl
    have key : ∀ d, P.underlying t = some d → (∀ e, d ≠ .pointer e) → m.path.toList = [] → some (f, v) = some (g, x) → ∃ x', (method (P.types.size + Made.depth) t v' name).run P w = .ok (g, x') w ∧ RV ι Fz w x x' := by
      intro d hu hnp hp he
      simp only [Option.some.injEq, Prod.mk.injEq] at he
      obtain ⟨rfl, rfl⟩ := he
      refine ⟨v', ?_, hv⟩
      rw [hfu]
      simp only [method, Sem.run_bind, hti, Result.andThen_ok, hm, hp, follow, hf, hrc d hu hnp, Sem.run_pure]
    split at h
    · rename_i hp hu
      exact key _ hu (fun e he => by cases he) hp h
    · rename_i hp hu
      exact key _ hu (fun e he => by cases he) hp h
    · rename_i hp hu
      exact key _ hu (fun e he => by cases he) hp h
    · cases h
  · cases h
theorem methK_of {E : Env} {t : TypeId} {name : String} {v : AV} {v' : Value} {K : FuncId × AV → Option R} {r : R} (h : methK E t name v K = some r) (hv : RV ι Fz w v v') :
    ∃ g x, K (g, x) = some r ∧ ∃ x', (method (E.P.types.size + Made.depth) t v' name).run E.P w = .ok (g, x') w ∧ RV ι Fz w x x' := by
  have key : ∀ v, RV ι Fz w v v' → (methAV E.P t name v).bind K = some r → ∃ g x, K (g, x) = some r ∧ ∃ x', (method (E.P.types.size + Made.depth) t v' name).run E.P w = .ok (g, x') w ∧ RV ι Fz w x x' := by
    intro v hv h
    obtain ⟨⟨g, x⟩, hg, h⟩ := Option.bind_eq_some_iff.1 h
    obtain ⟨x', hm, hx⟩ := method_of (w := w) hg hv
    exact ⟨g, x, h, x', hm, hx⟩
  unfold methK at h
  split at h
  · split at h
    · obtain ⟨κ, _, h⟩ := kdK_of h
      obtain ⟨y, hy, h⟩ := Option.bind_eq_some_iff.1 h
      exact key _ (ptrD_of hy hv) h
    · cases h
  · exact key _ hv h
theorem dynK_of {E : Env} {c : Ce} {K : TypeId → AV → Option R} {r : R} {v' : Value} (hv : RV ι Fz w (.pv .any c) v') : ∀ (l : List TypeId), dynK E c K l = some r →
    ∃ t u, K t u = some r ∧ ∃ u', v' = .iface t u' ∧ RV ι Fz w u u'
  | [], h => by simp [dynK] at h
  | t :: l, h => by
    simp only [dynK] at h
    obtain ⟨b, hb, h⟩ := Option.bind_eq_some_iff.1 h
    cases b with
    | false => rw [cond_false] at h; exact dynK_of hv l h
    | true =>
      rw [cond_true] at h
      obtain ⟨κ, _, h⟩ := kdK_of h
      cases ha : aggIs E.P t κ.isAgg with
      | false => rw [ha] at h; cases h
      | true =>
        rw [ha, cond_true] at h
        obtain ⟨x, hx, h⟩ := Option.bind_eq_some_iff.1 h
        obtain ⟨u', e, hu⟩ := asT_of (ι := ι) hx (RV_any.1 hv)
        exact ⟨t, _, h, u', e, hu⟩
theorem lacks_false {want : Array (String × TypeId)} {got : Array Method} (h : lacks want got = false) : Instr.missingMethod want got = none := by
  unfold lacks at h
  unfold Instr.missingMethod
  have e : (want.toList.filter fun (p : String × TypeId) => !got.any fun m => m.name == p.1 && m.sig == p.2) = [] := by
    rw [List.filter_eq_nil_iff]
    intro a ha hb
    have := List.any_eq_false.1 h a ha
    exact this hb
  have e2 : (want.toList.filter fun (name, sig) => !got.any fun m => m.name == name && m.sig == sig) = [] := e
  simp only [e2]
  rfl
theorem least_cons (s : String) (l : List String) : ∃ q, Instr.least (s :: l) = some q := ⟨_, rfl⟩
theorem lacks_true {want : Array (String × TypeId)} {got : Array Method} (h : lacks want got = true) : ∃ q, Instr.missingMethod want got = some q := by
  unfold lacks at h
  unfold Instr.missingMethod
  obtain ⟨a, ha, hb⟩ := List.any_eq_true.1 h
  have hm : a ∈ (want.toList.filter fun (name, sig) => !got.any fun m => m.name == name && m.sig == sig) := List.mem_filter.2 ⟨ha, hb⟩
  generalize (want.toList.filter fun (name, sig) => !got.any fun m => m.name == name && m.sig == sig) = l at hm
  have hm2 : a.1 ∈ l.map (·.1) := List.mem_map.2 ⟨a, hm, rfl⟩
  generalize l.map (·.1) = ms at hm2
  simp only [List.partition_eq_filter_filter]
  cases he : List.filter (not ∘ fun x : String => x.contains '.') ms with
  | cons s r => obtain ⟨q, hq⟩ := least_cons s r; exact ⟨q, by simp only [hq]; rfl⟩
  | nil =>
    cases hu : List.filter (fun x : String => x.contains '.') ms with
    | cons s r =>
      simp only [List.map_cons]
      obtain ⟨q, hq⟩ := least_cons ((s.splitOn ".").getLastD s) (r.map fun id => (id.splitOn ".").getLastD id)
      exact ⟨q, by rw [hq]; rfl⟩
    | nil =>
      exfalso
      cases hc : a.1.contains '.' with
      | true =>
        have : a.1 ∈ List.filter (fun x : String => x.contains '.') ms := List.mem_filter.2 ⟨hm2, hc⟩
        rw [hu] at this; cases this
      | false =>
        have : a.1 ∈ List.filter (not ∘ fun x : String => x.contains '.') ms := List.mem_filter.2 ⟨hm2, by show (!(a.1.contains '.')) = true; rw [hc]; rfl⟩
        rw [he] at this; cases this
/-- A type assertion that tells whether it holds. -/
theorem assertOk_of {E : Env} {e : Operand → AV} {H : List (Nat × AB)} {x : Operand} {xt asserted : TypeId} {K : AV → Option AB → Option R} {r : R} {d : Nat} {x' : Value} (hx : RV ι Fz w (e x) x')
    (h : opR E (.typeAssert x xt asserted true) e H K d = some r) : ∃ v, K v none = some r ∧ ∃ v', (Instr.typeAssert x' xt asserted true).run E.P w = .ok v' w ∧ RV ι Fz w v v' := by
  have two : ∀ {v : AV} {u : Value} {b : Bool}, RV ι Fz w v u → RV ι Fz w (.tuple [v, .pv .bool b]) (.tuple #[u, .bool b]) := by
    intro v u b hv
    simp only [RV]
    refine ⟨[u, .bool b], rfl, ?_⟩
    simp only [RVs]
    exact ⟨u, _, rfl, hv, .bool b, [], rfl, by simp [RV, Kd.isAgg, RP], rfl⟩
  simp only [opR] at h
  split at h
  · rename_i want t v hu hex
    rw [hex] at hx
    have hx0 := hx
    simp only [RV] at hx
    obtain ⟨u, rfl, hv⟩ := hx
    have hun := run_underlying hu w
    split at h
    rotate_left
    · cases h
    rename_i i hi
    have hti := run_typeInfo (P := E.P) (w := w) hi
    cases hlk : lacks want i.methods with
    | false =>
      rw [hlk, cond_false] at h
      have hms := lacks_false hlk
      refine ⟨_, h, _, ?_, two hx0⟩
      simp [Instr.typeAssert, hun, hti, hms]
    | true =>
      rw [hlk, cond_true] at h
      obtain ⟨q, hms⟩ := lacks_true hlk
      obtain ⟨v, z, hk, hz, hzv⟩ := zeroK_of (w := w) (ι := ι) (Fz := Fz) h
      refine ⟨_, hk, _, ?_, two hzv⟩
      simp [Instr.typeAssert, hun, hti, hms, hz]
  · rename_i dsc t v hni hu hex
    rw [hex] at hx
    simp only [RV] at hx
    obtain ⟨u, rfl, hv⟩ := hx
    have hun := run_underlying hu w
    cases hb : Nat.beq t asserted with
    | true =>
      rw [hb, cond_true] at h
      have e1 := Nat.eq_of_beq_eq_true hb
      subst e1
      split at h
      · cases h
      · refine ⟨_, h, _, ?_, two hv⟩
        cases dsc <;> first | (exact absurd rfl (hni _); done) | simp [Instr.typeAssert, hun]
    | false =>
      rw [hb, cond_false] at h
      obtain ⟨v, z, hk, hz, hzv⟩ := zeroK_of (w := w) (ι := ι) (Fz := Fz) h
      have hne : t ≠ asserted := fun e => by rw [e] at hb; simp at hb
      refine ⟨_, hk, _, ?_, two hzv⟩
      cases dsc <;> first | (exact absurd rfl (hni _); done) | simp [Instr.typeAssert, hun, hne, hz]
  · rename_i dsc hu hex
    rw [hex] at hx
    simp only [RV] at hx
    subst hx
    have hun := run_underlying hu w
    obtain ⟨v, z, hk, hz, hzv⟩ := zeroK_of (w := w) (ι := ι) (Fz := Fz) h
    refine ⟨_, hk, _, ?_, two hzv⟩
    cases dsc <;> simp [Instr.typeAssert, hun, hz]
  · cases h
  · rename_i dsc c hni hu hex
    rw [hex] at hx
    have hun := run_underlying hu w
    obtain ⟨b, hb, h⟩ := Option.bind_eq_some_iff.1 h
    cases b with
    | true =>
      rw [cond_true] at h
      obtain ⟨κ, _, h⟩ := kdK_of h
      cases ha : aggIs E.P asserted κ.isAgg with
      | false => rw [ha] at h; cases h
      | true =>
        rw [ha, cond_true] at h
        obtain ⟨y, hy, h⟩ := Option.bind_eq_some_iff.1 h
        obtain ⟨u', rfl, hu'⟩ := asT_of (ι := ι) hy (RV_any.1 hx)
        refine ⟨_, h, _, ?_, two hu'⟩
        cases dsc <;> first | (exact absurd rfl (hni _); done) | simp [Instr.typeAssert, hun]
    | false =>
      rw [cond_false] at h
      obtain ⟨v, z, hk, hz, hzv⟩ := zeroK_of (w := w) (ι := ι) (Fz := Fz) h
      refine ⟨_, hk, _, ?_, two hzv⟩
      rcases isT_of hb (RV_any.1 hx) with ⟨rfl, _⟩ | ⟨u, y, rfl, hbe⟩
      · cases dsc <;> simp [Instr.typeAssert, hun, hz]
      · have hne : u ≠ asserted := fun e => by rw [e] at hbe; simp at hbe
        cases dsc <;> first | (exact absurd rfl (hni _); done) | simp [Instr.typeAssert, hun, hne, hz]
  · cases h
end
end Go.Av
