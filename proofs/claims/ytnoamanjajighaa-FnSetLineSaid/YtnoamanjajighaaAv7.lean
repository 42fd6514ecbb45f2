/- The operations that only read, or make memory of their own (addresses, fields, cuts, literals). -/
import Derived.Test.YtnoamanjajighaaAv6
set_option linter.unusedVariables false
set_option linter.unusedSimpArgs false
namespace Go.Av
open Go Go.RowKit

section
variable {R : Type} {P : Program} {w0 : Root} {Fz0 : Nat → Prop} {ι : Nat → HI} {Fz : Nat → Prop} {H : List (Nat × AB)} {w : World}
theorem fieldAddr_of {s : TypeId} {f : Nat} {vx : Value} {K : AV → Option AB → Option R} {r : R} {E : Env} {e : Operand → AV} {x : Operand} {d : Nat} (hx : RV ι Fz w (e x) vx)
    (h : opR E (.fieldAddr s x f) e H K d = some r) : ∃ v, K v none = some r ∧ ∃ v', (Instr.fieldAt s vx f).run E.P w = .ok v' w ∧ RV ι Fz w v v' := by
  simp only [opR] at h
  obtain ⟨fs, fd, hu, hf, h⟩ := fieldK_of h
  obtain ⟨i, hi, h⟩ := sizeK_of h
  cases hz : Nat.beq i.size 0 with
  | true => rw [hz] at h; cases h
  | false =>
    have hz' : i.size ≠ 0 := fun e => by rw [e] at hz; simp at hz
    rw [hz, cond_false] at h
    have frz : ∀ (κ : Kd) (y : Den κ), RV ι Fz w (.eref κ y) vx → (prjK κ y f fun κ' y o => bif Nat.beq o fd.offset then K (.eref κ' y) none else none) = some r →
        ∃ v, K v none = some r ∧ ∃ v', (Instr.fieldAt s vx f).run E.P w = .ok v' w ∧ RV ι Fz w v v' := by
      intro κ y hx h
      simp only [RV] at hx
      obtain ⟨b, off, es, rfl, hb, hr, hl⟩ := hx
      obtain ⟨κ', z, o, hk, hprj⟩ := prjK_of κ y f _ r h
      cases ho : Nat.beq o fd.offset with
      | false => rw [ho] at hk; cases hk
      | true =>
        rw [ho, cond_true] at hk
        have hoe := Nat.eq_of_beq_eq_true ho
        obtain ⟨e1, e2, e3, rfl, h1, h2⟩ := hprj Fz w es hr
        refine ⟨_, hk, .pointer (some ⟨b, off + fd.offset, none⟩), ?_, ?_⟩
        · simp [Instr.fieldAt, run_underlying hu, hf, Instr.sureAddr, fieldPlace, run_size hi, hz', Addr.add_lit]
        · simp only [RV]
          exact ⟨b, _, e2, rfl, hb, h2, by rw [← hoe, ← h1]; exact hl.mid⟩
    split at h
    · rename_i g off he
      rw [he] at hx
      simp only [RV] at hx
      obtain ⟨hv, rfl⟩ := hx
      refine ⟨_, h, .pointer (some ⟨(ι g).blk, off + fd.offset, none⟩), ?_, by simp only [RV]; exact ⟨hv, trivial⟩⟩
      simp [Instr.fieldAt, run_underlying hu, hf, Instr.sureAddr, fieldPlace, run_size hi, hz', Addr.add_lit]
    · rename_i κ y he
      rw [he] at hx
      exact frz κ y hx h
    · rename_i c he
      rw [he] at hx
      obtain ⟨κ, _, h⟩ := kdK_of h
      obtain ⟨y, hy, h⟩ := Option.bind_eq_some_iff.1 h
      exact frz κ y (ptrD_of hy hx) h
    · cases h
theorem field_of {s : TypeId} {f : Nat} {vx : Value} {K : AV → Option AB → Option R} {r : R} {E : Env} {e : Operand → AV} {x : Operand} {d : Nat} (hx : RV ι Fz w (e x) vx)
    (h : opR E (.field s x f) e H K d = some r) : ∃ v, K v none = some r ∧ ∃ v', (Instr.field s vx f).run E.P w = .ok v' w ∧ RV ι Fz w v v' := by
  simp only [opR] at h
  obtain ⟨fs, fd, hu, hf, h⟩ := fieldK_of h
  split at h
  · rename_i cs he
    rw [he] at hx
    simp only [RV] at hx
    obtain ⟨vs, rfl, h1, hcs⟩ := hx
    cases ha : aggIs E.P fd.type true with
    | true =>
      rw [ha, cond_true] at h
      obtain ⟨i, hi, h⟩ := sizeK_of h
      cases hc : aliveL ((cs.drop fd.offset).take i.size) with
      | false => rw [hc] at h; cases h
      | true =>
        rw [hc, cond_true] at h
        refine ⟨_, h, .agg ((vs.drop fd.offset).take i.size).toArray, ?_, ?_⟩
        · simp [Instr.field, run_underlying hu, hf, asAgg, run_part w ha hi, List.extract_toArray]
        · simp only [RV]
          exact ⟨_, rfl, fun u hu => h1 u (List.mem_of_mem_drop (List.mem_of_mem_take hu)), RVs_take _ (RVs_drop _ hcs)⟩
    | false =>
      rw [ha, cond_false] at h
      cases ha' : aggIs E.P fd.type false with
      | false => rw [ha'] at h; cases h
      | true =>
        rw [ha', cond_true] at h
        split at h
        · cases h
        · rename_i v hnd hv'
          obtain ⟨u, hu', hru⟩ := RVs_at hcs hv'
          refine ⟨_, h, u, ?_, hru⟩
          simp [Instr.field, run_underlying hu, hf, asAgg, run_part_cell w ha' (show vs.toArray[fd.offset]? = some u by simpa using hu')]
        · cases h
  · rename_i κ y he
    rw [he] at hx
    obtain ⟨κ', z, o, hk, hprj⟩ := prjK_of κ y f _ r h
    cases hc : (Nat.beq o fd.offset && aggIs E.P fd.type κ'.isAgg && sizeB E.P fd.type κ'.size) with
    | false => rw [hc] at hk; cases hk
    | true =>
      rw [hc, cond_true] at hk
      simp only [Bool.and_eq_true] at hc
      obtain ⟨⟨ho, ha⟩, hs⟩ := hc
      have hoe := Nat.eq_of_beq_eq_true ho
      obtain ⟨i, hi, hsz⟩ := sizeB_of hs
      have hagg : κ.isAgg = true := by
        cases κ <;> first | rfl | (simp [prjK] at h)
      simp only [RV, hagg, if_true] at hx
      obtain ⟨vs, rfl, hr⟩ := hx
      obtain ⟨e1, e2, e3, hes, h1, h2⟩ := hprj Fz w _ hr
      have hl2 := RP_len κ' z e2 h2
      refine ⟨_, hk, ?_⟩
      cases hka : κ'.isAgg with
      | true =>
        rw [hka] at ha
        refine ⟨.agg e2.toArray, ?_, by simp only [RV, hka, if_true]; exact ⟨_, rfl, by simpa using h2⟩⟩
        have hex : vs.extract fd.offset (fd.offset + i.size) = e2.toArray := by
          apply Array.ext'
          rw [Array.toList_extract, hes, List.extract_eq_take_drop, ← hoe, hsz, ← hl2, show o + e2.length - o = e2.length by omega, ← h1, List.append_assoc, List.drop_left, List.take_left]
        simp [Instr.field, run_underlying hu, hf, asAgg, run_part w ha hi, hex]
      | false =>
        rw [hka] at ha
        have h1' : e2.length = 1 := by rw [hl2]; cases κ' <;> simp_all [Kd.isAgg, Kd.size]
        obtain ⟨u, rfl⟩ := List.length_eq_one_iff.1 h1'
        refine ⟨u, ?_, by simpa only [RV, hka, Bool.false_eq_true, if_false] using h2⟩
        have hcell : vs[fd.offset]? = some u := by
          rw [← Array.getElem?_toList, hes, ← hoe, ← h1]; simp
        simp [Instr.field, run_underlying hu, hf, asAgg, run_part_cell w ha hcell]
  · cases h

theorem asIntOf_int (k : IntKind) (n : Int) (P : Program) (w : World) : (asIntOf (.int k n)).run P w = .ok (k, n) w := rfl
theorem indexAddr_of {t : TypeId} {vx vi : Value} {K : AV → Option AB → Option R} {r : R} {E : Env} {e : Operand → AV} {x i : Operand} {d : Nat} (m : Mem w0 Fz0 ι Fz H w) (hx : RV ι Fz w (e x) vx) (hi : RV ι Fz w (e i) vi)
    (h : opR E (.indexAddr t x i) e H K d = some r) : ∃ v, K v none = some r ∧ ∃ v', (Instr.indexAt t vx vi).run E.P w = .ok v' w ∧ RV ι Fz w v v' := by
  simp only [opR] at h
  split at h
  · rename_i n el hat
    have hu := arrT_of hat
    have run (a : Addr) (k : IntKind) (p : Nat) (inf : TypeInfo) (hinf : E.P.info? el = some inf) (hp : p < n) (hn : 1 ≤ n) :
        (Instr.indexAt t (.pointer (some a)) (.int k (p : Int))).run E.P w = .ok (.pointer (some (a.add (p * inf.size)))) w := by
      simp [Instr.indexAt, asIntOf_int, run_underlying hu, Instr.sureAddr, run_size hinf, hp]
    split at h
    · rename_i g off k j hex hei
      rw [hex] at hx
      rw [hei, RV_int] at hi
      subst hi
      cases hn : Nat.ble 1 n with
      | false => rw [hn] at h; cases h
      | true =>
        rw [hn, cond_true] at h
        obtain ⟨inf, hinf, h⟩ := sizeK_of h
        obtain ⟨p, _, hp, rfl, h'⟩ := idxK_of _ _ h
        simp only [RV] at hx
        obtain ⟨hv, rfl⟩ := hx
        refine ⟨_, h', _, run _ k p inf hinf (by omega) (Nat.le_of_ble_eq_true hn), ?_⟩
        simp only [RV, Addr.add_lit]
        exact ⟨hv, trivial⟩
    · rename_i κ y k j hex hei
      rw [hex] at hx
      rw [hei, RV_int] at hi
      subst hi
      cases hn : Nat.ble 1 n with
      | false => rw [hn] at h; cases h
      | true =>
        rw [hn, cond_true] at h
        obtain ⟨inf, hinf, h⟩ := sizeK_of h
        obtain ⟨p, _, hp, rfl, h'⟩ := idxK_of _ _ h
        obtain ⟨κ', z, o, hk, hprj⟩ := prjK_of κ y p _ r h'
        cases ho : (Nat.beq o (p * inf.size) && Nat.beq κ'.size inf.size) with
        | false => rw [ho] at hk; cases hk
        | true =>
          rw [ho, cond_true] at hk
          simp only [Bool.and_eq_true] at ho
          have hoe := Nat.eq_of_beq_eq_true ho.1
          simp only [RV] at hx
          obtain ⟨b, off, es, rfl, hb, hr, hl⟩ := hx
          obtain ⟨e1, e2, e3, rfl, h1, h2⟩ := hprj Fz w es hr
          refine ⟨_, hk, _, run _ k p inf hinf (by omega) (Nat.le_of_ble_eq_true hn), ?_⟩
          simp only [RV, Addr.add_lit]
          exact ⟨b, _, e2, rfl, hb, h2, by rw [← hoe, ← h1]; exact hl.mid⟩
    · cases h
  rename_i hnone
  clear hnone
  obtain ⟨el, hu, h⟩ := elemK_of h
  have run (a : Addr) (len cap : Nat) (k : IntKind) (n : Int) (inf : TypeInfo) (hinf : E.P.info? el = some inf) (h0 : 0 ≤ n) (h1 : n < len) :
      (Instr.indexAt t (.slice (some a) len cap) (.int k n)).run E.P w = .ok (.pointer (some (a.add (n.toNat * inf.size)))) w := by
    simp [Instr.indexAt, asIntOf_int, run_underlying hu, h0, h1, run_size hinf]
  split at h
  · rename_i g n k j hex hei
    rw [hex] at hx
    rw [hei, RV_int] at hi
    subst hi
    cases hs : sizeB E.P el 1 with
    | false => rw [hs] at h; cases h
    | true =>
      rw [hs, cond_true] at h
      obtain ⟨inf, hinf, hsz⟩ := sizeB_of hs
      obtain ⟨p, _, hp, rfl, h'⟩ := idxK_of _ _ h
      simp only [RV] at hx
      obtain ⟨hv, rfl⟩ := hx
      refine ⟨_, h', _, run _ n n k (p : Int) inf hinf (by omega) (by omega), ?_⟩
      simp only [RV, Addr.add_lit, hsz]
      exact ⟨hv, by simp⟩
  · rename_i κ xs k n hex hei
    rw [hex] at hx
    rw [hei, RV_int] at hi
    subst hi
    cases hs : sizeB E.P el κ.size with
    | false => rw [hs] at h; cases h
    | true =>
      rw [hs, cond_true] at h
      obtain ⟨inf, hinf, hsz⟩ := sizeB_of hs
      obtain ⟨y, hy, h⟩ := Option.bind_eq_some_iff.1 h
      obtain ⟨h0, hlt, hy⟩ := nth_of hy
      simp only [RV, Kd.isAgg, Bool.false_eq_true, if_false, RP] at hx
      obtain ⟨_, e1, a, c, rfl, hc, hx⟩ := hx
      simp only [List.cons.injEq, and_true] at e1
      subst e1
      rcases hx with rfl | ⟨b, off, rfl, hb, hx⟩
      · simp at hlt
      obtain ⟨es, hr, hes, hl⟩ := hx _ y hy
      refine ⟨_, h, _, run ⟨b, off, none⟩ xs.length c k n inf hinf h0 (by omega), ?_⟩
      simp only [RV, Addr.add_lit, hsz]
      exact ⟨b, _, es, rfl, hb, hr, hl⟩
  · rename_i κ' g k n hex hei
    rw [hex] at hx
    rw [hei, RV_int] at hi
    subst hi
    have hrb := m.rb g
    split at h
    · rename_i el' κ xs hb
      rw [hb] at hrb
      cases hs : sizeB E.P el κ.size with
      | false => rw [hs] at h; cases h
      | true =>
        rw [hs, cond_true] at h
        obtain ⟨inf, hinf, hsz⟩ := sizeB_of hs
        obtain ⟨j, hj, h⟩ := Option.bind_eq_some_iff.1 h
        obtain ⟨h0, h1, rfl⟩ := chk_of hj
        simp only [RB] at hrb
        simp only [RV] at hx
        rcases hx with ⟨hv, _⟩ | ⟨hv, rfl⟩
        · rcases hrb.2 with ⟨_, e⟩ | ⟨e, _⟩
          · rw [e] at h1; simp at h1; omega
          · rw [hv] at e; cases e
        · refine ⟨_, h, _, run ⟨(ι g).blk, 0, none⟩ (ι g).len (ι g).cap k n inf hinf h0 (by rw [hrb.1]; exact h1), ?_⟩
          simp only [RV, Addr.add_lit, hsz, Nat.zero_add]
          exact ⟨hv, by rw [hrb.1]; omega, trivial⟩
    · cases h
  · rename_i κ₀ g off len k n hex hei
    rw [hex] at hx
    rw [hei, RV_int] at hi
    subst hi
    have hrb := m.rb g
    split at h
    · rename_i el' κ xs hb
      cases hs : (decide (κ₀ = κ) && sizeB E.P el κ.size) with
      | false => rw [hs] at h; cases h
      | true =>
        rw [hs, cond_true] at h
        simp only [Bool.and_eq_true, decide_eq_true_eq] at hs
        obtain ⟨rfl, hs⟩ := hs
        obtain ⟨inf, hinf, hsz⟩ := sizeB_of hs
        obtain ⟨j, hj, h⟩ := Option.bind_eq_some_iff.1 h
        obtain ⟨h0, h1, rfl⟩ := chk_of hj
        simp only [RV] at hx
        obtain ⟨hol, hx⟩ := hx
        rcases hx with ⟨rfl, _⟩ | ⟨hv, c, rfl, hc⟩
        · omega
        · refine ⟨_, h, _, run ⟨(ι g).blk, off * κ₀.size, none⟩ len c k n inf hinf h0 h1, ?_⟩
          simp only [RV, Addr.add_lit, hsz, Nat.add_mul]
          exact ⟨hv, by omega, trivial⟩
    · cases h
  · cases h

/-! ### cuts -/
theorem bounds_of2 {P : Program} {w : World} {lo hi : Option Value} {b : Bool} {l h : Int} {len cap : Nat} (hl : (lo = none ∧ l = 0) ∨ ∃ k, lo = some (.int k l)) (hh : (hi = none ∧ h = len) ∨ ∃ k, hi = some (.int k h))
    (h0 : 0 ≤ l) (h1 : l ≤ h) (h2 : h ≤ cap) : (Instr.sliceBounds b len cap lo hi none).run P w = .ok (l.toNat, h.toNat, cap) w := by
  have e2 : (h.toNat : Int) = h := Int.toNat_of_nonneg (by omega)
  rcases hh with ⟨rfl, rfl⟩ | ⟨k, rfl⟩
  · rcases hl with ⟨rfl, rfl⟩ | ⟨k', rfl⟩
    · simp [Instr.sliceBounds]
    · simp only [Instr.sliceBounds, Sem.run_bind, Sem.run_pure, Result.andThen_ok, run_sliceBound w k' l len _ h0 h1]
      simp
  · rcases hl with ⟨rfl, rfl⟩ | ⟨k', rfl⟩
    · simp only [Instr.sliceBounds, Sem.run_bind, Sem.run_pure, Result.andThen_ok, run_sliceBound w k h cap _ (by omega) (by omega)]
      simp
    · simp only [Instr.sliceBounds, Sem.run_bind, Sem.run_pure, Result.andThen_ok, run_sliceBound w k h cap _ (by omega) (by omega)]
      simp only [Option.isSome_none, Bool.false_eq_true, if_false]
      rw [run_sliceBound w k' l h.toNat _ h0 (by omega)]
      simp
theorem bounds_of {P : Program} {w : World} {lo hi : Option Value} {b : Bool} {l h : Int} {len cap : Nat} (hl : (lo = none ∧ l = 0) ∨ ∃ k, lo = some (.int k l)) (hh : (hi = none ∧ h = len) ∨ ∃ k, hi = some (.int k h))
    (h0 : 0 ≤ l) (h1 : l ≤ h) (h2 : h ≤ len) (hc : len ≤ cap) : (Instr.sliceBounds b len cap lo hi none).run P w = .ok (l.toNat, h.toNat, cap) w := by
  have e2 : (h.toNat : Int) = h := Int.toNat_of_nonneg (by omega)
  rcases hh with ⟨rfl, rfl⟩ | ⟨k, rfl⟩
  · rcases hl with ⟨rfl, rfl⟩ | ⟨k', rfl⟩
    · simp [Instr.sliceBounds]
    · simp only [Instr.sliceBounds, Sem.run_bind, Sem.run_pure, Result.andThen_ok, run_sliceBound w k' l len _ h0 h1]
      simp
  · rcases hl with ⟨rfl, rfl⟩ | ⟨k', rfl⟩
    · simp only [Instr.sliceBounds, Sem.run_bind, Sem.run_pure, Result.andThen_ok, run_sliceBound w k h cap _ (by omega) (by omega)]
      simp
    · simp only [Instr.sliceBounds, Sem.run_bind, Sem.run_pure, Result.andThen_ok, run_sliceBound w k h cap _ (by omega) (by omega)]
      simp only [Option.isSome_none, Bool.false_eq_true, if_false]
      rw [run_sliceBound w k' l h.toNat _ h0 (by omega)]
      rfl
theorem flatD_ment : ∀ (κ : Kd) (x : Den κ) (h : Nat), mentL h (flatD κ x) = false
  | .int _, _, _ => rfl
  | .float, _, _ => rfl
  | .bool, _, _ => rfl
  | .str, _, _ => rfl
  | .list _, _, _ => rfl
  | .unit, _, _ => rfl
  | .geo, _, _ => rfl
  | .any, _, _ => rfl
  | .nl _, _, _ => rfl
  | .pair a b, x, h => by
    have app : ∀ (l m : List AV), mentL h (l ++ m) = (mentL h l || mentL h m) := by
      intro l m
      induction l with
      | nil => simp [mentL]
      | cons v l ih => simp only [List.cons_append, mentL, ih, Bool.or_assoc]
    simp only [flatD, app, flatD_ment a x.1 h, flatD_ment b x.2 h, Bool.or_self]
theorem slice_of {t : TypeId} {K : AV → Option AB → Option R} {r : R} {E : Env} {e : Operand → AV} {x : Operand} {lo hi : Option Operand} {ρ : Operand → Value} {d : Nat} (m : Mem w0 Fz0 ι Fz H w)
    (he : ∀ x, RV ι Fz w (e x) (ρ x)) (h : opR E (.slice t x lo hi none) e H K d = some r) : ∃ v, K v none = some r ∧ ∃ v', (Instr.sliceAt t (ρ x) (lo.map ρ) (hi.map ρ) none).run E.P w = .ok v' w ∧ RV ι Fz w v v' := by
  have hx := he x
  simp only [opR] at h
  have bd : ∀ (len : Nat) (G : Nat × Nat → Option R), (match (lo.map e).getD (.pv (.int .i64) 0), (hi.map e).getD (.pv (.int .i64) (len : Int)) with
      | .pv (.int _) l, .pv (.int _) h => (chk2 l h len).bind G
      | _, _ => none) = some r → ∃ l h : Int, 0 ≤ l ∧ l ≤ h ∧ h ≤ len ∧ G (l.toNat, h.toNat) = some r ∧
        ((lo.map ρ = none ∧ l = 0) ∨ ∃ k, lo.map ρ = some (.int k l)) ∧ ((hi.map ρ = none ∧ h = len) ∨ ∃ k, hi.map ρ = some (.int k h)) := by
    intro len G hG
    split at hG
    · rename_i k l k' hh e1 e2
      obtain ⟨p, hp, hG⟩ := Option.bind_eq_some_iff.1 hG
      obtain ⟨h0, h1, h2, rfl⟩ := chk2_of hp
      refine ⟨l, hh, h0, h1, h2, hG, ?_, ?_⟩
      · cases lo with
        | none => left; simp only [Option.map_none, Option.getD_none] at e1; cases e1; exact ⟨rfl, rfl⟩
        | some o => right; simp only [Option.map_some, Option.getD_some] at e1; have := he o; rw [e1, RV_int] at this; exact ⟨k, by simp [this]⟩
      · cases hi with
        | none => left; simp only [Option.map_none, Option.getD_none] at e2; cases e2; exact ⟨rfl, rfl⟩
        | some o => right; simp only [Option.map_some, Option.getD_some] at e2; have := he o; rw [e2, RV_int] at this; exact ⟨k', by simp [this]⟩
    · cases hG
  have bd2 : ∀ (len top : Nat) (G : Nat × Nat → Option R), (match (lo.map e).getD (.pv (.int .i64) 0), (hi.map e).getD (.pv (.int .i64) (len : Int)) with
      | .pv (.int _) l, .pv (.int _) h => (chk2 l h top).bind G
      | _, _ => none) = some r → ∃ l h : Int, 0 ≤ l ∧ l ≤ h ∧ h ≤ top ∧ G (l.toNat, h.toNat) = some r ∧
        ((lo.map ρ = none ∧ l = 0) ∨ ∃ k, lo.map ρ = some (.int k l)) ∧ ((hi.map ρ = none ∧ h = len) ∨ ∃ k, hi.map ρ = some (.int k h)) := by
    intro len top G hG
    split at hG
    · rename_i k l k' hh e1 e2
      obtain ⟨p, hp, hG⟩ := Option.bind_eq_some_iff.1 hG
      obtain ⟨h0, h1, h2, rfl⟩ := chk2_of hp
      refine ⟨l, hh, h0, h1, h2, hG, ?_, ?_⟩
      · cases lo with
        | none => left; simp only [Option.map_none, Option.getD_none] at e1; cases e1; exact ⟨rfl, rfl⟩
        | some o => right; simp only [Option.map_some, Option.getD_some] at e1; have := he o; rw [e1, RV_int] at this; exact ⟨k, by simp [this]⟩
      · cases hi with
        | none => left; simp only [Option.map_none, Option.getD_none] at e2; cases e2; exact ⟨rfl, rfl⟩
        | some o => right; simp only [Option.map_some, Option.getD_some] at e2; have := he o; rw [e2, RV_int] at this; exact ⟨k', by simp [this]⟩
    · cases hG
  split at h
  · rename_i s hex
    rw [hex, RV_str] at hx
    rw [hx]
    split at h
    · rename_i hu
      obtain ⟨l, hh, h0, h1, h2, hG, hl, hr⟩ := bd _ _ h
      refine ⟨_, hG, _, ?_, RV_str.2 rfl⟩
      simp [Instr.sliceAt, run_underlying hu, Instr.slice, bounds_of hl hr h0 h1 h2 (Nat.le_refl _)]
    · cases h
  · rename_i κ y hex
    rw [hex] at hx
    split at h
    · rename_i n el hat
      have hu := arrT_of hat
      split at h
      · rename_i κ' hkd
        cases hs : (sizeB E.P el κ'.size && Nat.ble 1 κ'.size) with
        | false => rw [hs] at h; cases h
        | true =>
          rw [hs, cond_true] at h
          simp only [Bool.and_eq_true] at hs
          obtain ⟨inf, hinf, hsz⟩ := sizeB_of hs.1
          obtain ⟨ys, hys, h⟩ := Option.bind_eq_some_iff.1 h
          obtain ⟨l, hh, h0, h1, h2, hG, hl, hr⟩ := bd _ _ h
          simp only [RV] at hx
          obtain ⟨b, off, es, hxe, hb, hrp, hlie⟩ := hx
          have hcs := flatD_of (ι := ι) κ y es hrp
          have hnm : ∀ h, mentL h (flatD κ y) = true → (getH H h).isArr → (ι h).virt = false → Fz (ι h).blk := fun h hm => by
            rw [flatD_ment] at hm; cases hm
          obtain ⟨g1, g2, g3⟩ := chunks_of (H := H) (Fz' := Fz) m.rb (fun _ h => h) n _ ys es hys hcs hnm
          rw [hxe]
          refine ⟨_, hG, .slice (some (if n = l.toNat then ⟨b, off, none⟩ else (⟨b, off, none⟩ : Addr).add (l.toNat * inf.size))) (hh.toNat - l.toNat) (n - l.toNat), ?_, ?_⟩
          · simp [Instr.sliceAt, run_underlying hu, Instr.sureAddr, bounds_of hl hr h0 h1 h2 (Nat.le_refl _), run_size hinf]
          · simp only [RV, Kd.isAgg, Bool.false_eq_true, if_false, RP]
            have hlen : ((ys.drop l.toNat).take (hh.toNat - l.toNat)).length = hh.toNat - l.toNat := by rw [List.length_take, List.length_drop]; omega
            refine ⟨_, rfl, _, _, by rw [hlen], by rw [hlen]; omega, ?_⟩
            by_cases hz : hh.toNat - l.toNat = 0
            · left; rw [hz]; simp
            · right
              rw [if_neg (by omega)]
              refine ⟨b, _, by simp only [Addr.add_lit]; rfl, hb, fun i z hz' => ?_⟩
              have hi' : i < hh.toNat - l.toNat := by
                rcases Nat.lt_or_ge i (hh.toNat - l.toNat) with h | h
                · exact h
                · rw [List.getElem?_eq_none (by omega)] at hz'; cases hz'
              rw [List.getElem?_take, if_pos hi', List.getElem?_drop] at hz'
              have hrp' := g3 _ z hz'
              have hidx : (l.toNat + i) * κ'.size + κ'.size ≤ es.length := by
                rw [g2, ← Nat.succ_mul]; exact Nat.mul_le_mul_right _ (by omega)
              refine ⟨_, hrp', by rw [List.length_take, List.length_drop]; omega, fun j u hj => ?_⟩
              rw [List.getElem?_take] at hj
              split at hj
              · rw [List.getElem?_drop] at hj
                have := hlie _ u hj
                rw [hsz, show off + l.toNat * κ'.size + i * κ'.size + j = off + ((l.toNat + i) * κ'.size + j) by rw [Nat.add_mul]; omega]
                exact this
              · cases hj
      · cases h
    · cases h
  · rename_i hns hns2
    obtain ⟨el, hu, h⟩ := elemK_of h
    have run (a : Option Addr) (len cap : Nat) (l hh : Int) (inf : TypeInfo) (hinf : E.P.info? el = some inf) (h0 : 0 ≤ l) (h1 : l ≤ hh) (h2 : hh ≤ len) (hc : len ≤ cap)
        (hl : (lo.map ρ = none ∧ l = 0) ∨ ∃ k, lo.map ρ = some (.int k l)) (hr : (hi.map ρ = none ∧ hh = len) ∨ ∃ k, hi.map ρ = some (.int k hh)) :
        (Instr.sliceAt t (.slice a len cap) (lo.map ρ) (hi.map ρ) none).run E.P w = .ok (.slice (if cap = l.toNat then a else a.map (·.add (l.toNat * inf.size))) (hh.toNat - l.toNat) (cap - l.toNat)) w := by
      simp [Instr.sliceAt, run_underlying hu, Instr.slice, bounds_of hl hr h0 h1 h2 hc, run_size hinf]
    have run2 (a : Option Addr) (len cap : Nat) (l hh : Int) (inf : TypeInfo) (hinf : E.P.info? el = some inf) (h0 : 0 ≤ l) (h1 : l ≤ hh) (h2 : hh ≤ cap)
        (hl : (lo.map ρ = none ∧ l = 0) ∨ ∃ k, lo.map ρ = some (.int k l)) (hr : (hi.map ρ = none ∧ hh = len) ∨ ∃ k, hi.map ρ = some (.int k hh)) :
        (Instr.sliceAt t (.slice a len cap) (lo.map ρ) (hi.map ρ) none).run E.P w = .ok (.slice (if cap = l.toNat then a else a.map (·.add (l.toNat * inf.size))) (hh.toNat - l.toNat) (cap - l.toNat)) w := by
      simp [Instr.sliceAt, run_underlying hu, Instr.slice, bounds_of2 hl hr h0 h1 h2, run_size hinf]
    split at h
    · rename_i κ xs hex
      rw [hex] at hx
      cases hs : sizeB E.P el κ.size with
      | false => rw [hs] at h; cases h
      | true =>
        rw [hs, cond_true] at h
        obtain ⟨inf, hinf, hsz⟩ := sizeB_of hs
        obtain ⟨l, hh, h0, h1, h2, hG, hl, hr⟩ := bd _ _ h
        simp only [RV, Kd.isAgg, Bool.false_eq_true, if_false, RP] at hx
        obtain ⟨_, e1, a, c, hxe, hc, hx⟩ := hx
        simp only [List.cons.injEq, and_true] at e1
        subst e1
        rw [hxe]
        refine ⟨_, hG, _, run a xs.length c l hh inf hinf h0 h1 h2 hc hl hr, ?_⟩
        simp only [RV, Kd.isAgg, Bool.false_eq_true, if_false, RP]
        have hlen : ((xs.drop l.toNat).take (hh.toNat - l.toNat)).length = hh.toNat - l.toNat := by rw [List.length_take, List.length_drop]; omega
        refine ⟨_, rfl, _, _, by rw [hlen], by rw [hlen]; omega, ?_⟩
        by_cases hz : hh.toNat - l.toNat = 0
        · left; rw [hz]; simp
        · right
          rcases hx with rfl | ⟨b, off, rfl, hb, hx⟩
          · simp at h2; omega
          · rw [if_neg (by omega)]
            refine ⟨b, _, by simp only [Option.map_some, Addr.add_lit]; rfl, hb, fun i y hy => ?_⟩
            have hi' : i < hh.toNat - l.toNat := by
              rcases Nat.lt_or_ge i (hh.toNat - l.toNat) with h | h
              · exact h
              · rw [List.getElem?_eq_none (by omega)] at hy; cases hy
            rw [List.getElem?_take, if_pos hi', List.getElem?_drop] at hy
            obtain ⟨es, ha, hb', hcx⟩ := hx _ y hy
            refine ⟨es, ha, hb', ?_⟩
            rw [hsz, Nat.add_assoc, ← Nat.add_mul]
            exact hcx
    · rename_i κ' g hex
      rw [hex] at hx
      have hrb := m.rb g
      split at h
      · rename_i el' κ xs hb
        rw [hb] at hrb
        cases hs : sizeB E.P el κ.size with
        | false => rw [hs] at h; cases h
        | true =>
          rw [hs, cond_true] at h
          obtain ⟨inf, hinf, hsz⟩ := sizeB_of hs
          cases hfu : (lo.isNone && hi.isNone) with
          | true =>
            rw [hfu, cond_true] at h
            simp only [Bool.and_eq_true, Option.isNone_iff_eq_none] at hfu
            obtain ⟨hlo, hhi⟩ := hfu
            simp only [RB] at hrb
            have hx0 := hx
            simp only [RV] at hx
            rcases hx with ⟨hv, hxe⟩ | ⟨hv, hxe⟩
            · refine ⟨_, h, _, ?_, hx0⟩
              have := run none 0 0 0 0 inf hinf (by omega) (by omega) (by omega) (by omega) (.inl ⟨by rw [hlo]; rfl, rfl⟩) (.inl ⟨by rw [hhi]; rfl, rfl⟩)
              rw [hxe]
              simpa using this
            · have hcap : xs.length ≤ (ι g).cap := by
                rcases hrb.2 with ⟨e, _⟩ | ⟨_, _, _, h, _⟩
                · rw [hv] at e; cases e
                · exact h
              refine ⟨_, h, _, ?_, hx0⟩
              have := run (some ⟨(ι g).blk, 0, none⟩) (ι g).len (ι g).cap 0 (ι g).len inf hinf (by omega) (by omega) (by omega) (by rw [hrb.1]; exact hcap) (.inl ⟨by rw [hlo]; rfl, rfl⟩) (.inl ⟨by rw [hhi]; rfl, rfl⟩)
              rw [hxe]
              simpa [Addr.add_lit] using this
          | false =>
          rw [hfu, cond_false] at h
          obtain ⟨l, hh, h0, h1, h2, hG, hl, hr⟩ := bd _ _ h
          simp only [RB] at hrb
          simp only [RV] at hx
          rcases hx with ⟨hv, hxe⟩ | ⟨hv, hxe⟩
          · rcases hrb.2 with ⟨_, e⟩ | ⟨e, _⟩
            · rw [e] at h2
              simp only [List.length_nil, Int.natCast_zero] at h2
              have hl0 : l = 0 := by omega
              have hh0 : hh = 0 := by omega
              subst hl0 hh0
              rw [hxe]
              refine ⟨_, hG, _, run none 0 0 0 0 inf hinf (by omega) (by omega) (by omega) (by omega) hl ?_, ?_⟩
              · rcases hr with ⟨a, b⟩ | hr
                · left; exact ⟨a, rfl⟩
                · right; exact hr
              · simp only [RV]
                refine ⟨by simp, .inl ⟨by simp, _, _, rfl, fun _ hv' => ?_⟩⟩
                rw [hv] at hv'; cases hv'
            · rw [hv] at e; cases e
          · have hcap : xs.length ≤ (ι g).cap := by
              rcases hrb.2 with ⟨e, _⟩ | ⟨_, _, _, h, _⟩
              · rw [hv] at e; cases e
              · exact h
            rw [hxe]
            refine ⟨_, hG, _, run (some ⟨(ι g).blk, 0, none⟩) (ι g).len (ι g).cap l hh inf hinf h0 h1 (by rw [hrb.1]; exact h2) (by rw [hrb.1]; exact hcap) hl ?_, ?_⟩
            · rcases hr with ⟨a, b⟩ | hr
              · left; exact ⟨a, by rw [b, hrb.1]⟩
              · right; exact hr
            · simp only [RV]
              refine ⟨by rw [hrb.1]; omega, ?_⟩
              by_cases hz : hh.toNat - l.toNat = 0
              · left; rw [hz]
                refine ⟨rfl, _, _, rfl, fun ho _ => ?_⟩
                rw [ho]
                simp [Addr.add]
              · right
                rw [if_neg (by omega)]
                refine ⟨hv, (ι g).cap - l.toNat, ?_, by omega, by omega⟩
                simp only [Option.map_some, Addr.add_lit, Nat.zero_add, hsz]
      · cases h
    · rename_i κ₀ g off len hex
      rw [hex] at hx
      split at h
      · rename_i el' κ xs hb
        cases hs : (decide (κ₀ = κ) && sizeB E.P el κ.size) with
        | false => rw [hs] at h; cases h
        | true =>
          rw [hs, cond_true] at h
          simp only [Bool.and_eq_true, decide_eq_true_eq] at hs
          obtain ⟨rfl, hs⟩ := hs
          obtain ⟨inf, hinf, hsz⟩ := sizeB_of hs
          obtain ⟨l, hh, h0, h1, h2, hG, hl, hr⟩ := bd2 _ _ _ h
          simp only [RV] at hx
          obtain ⟨hlen, hx⟩ := hx
          have hrb := m.rb g
          rw [hb] at hrb
          simp only [RB] at hrb
          have zero_ : ∀ (a : Option Addr) (c : Nat), ρ x = .slice a 0 c → len = 0 → l = 0 → hh = 0 → (off = 0 → (ι g).virt = false → a = some ⟨(ι g).blk, 0, none⟩ ∧ c = (ι g).cap) → ∃ v, K v none = some r ∧ ∃ v', (Instr.sliceAt t (ρ x) (lo.map ρ) (hi.map ρ) none).run E.P w = .ok v' w ∧ RV ι Fz w v v' := by
            intro a c hxe hz hl0 hh0 hcl
            subst hl0 hh0 hz
            rw [hxe]
            refine ⟨_, hG, _, run a 0 c 0 0 inf hinf (by omega) (by omega) (by omega) (by omega) hl hr, ?_⟩
            simp only [RV]
            refine ⟨by simp; omega, .inl ⟨by simp, _, _, rfl, fun ho hv => ?_⟩⟩
            have := hcl (by simpa using ho) hv
            rw [this.1, this.2]
            simp [Addr.add]
          have full : (ι g).virt = false → (xs.length : Nat) ≤ (ι g).cap := fun hv => by
            rcases hrb.2 with ⟨e, _⟩ | ⟨_, _, _, h, _⟩
            · rw [hv] at e; cases e
            · exact h
          have go : ∀ (c : Nat), (ι g).virt = false → ρ x = .slice (some ⟨(ι g).blk, off * κ₀.size, none⟩) len c → hh ≤ c → off + c = (ι g).cap → off + hh.toNat ≤ (ι g).len → ∃ v, K v none = some r ∧ ∃ v', (Instr.sliceAt t (ρ x) (lo.map ρ) (hi.map ρ) none).run E.P w = .ok v' w ∧ RV ι Fz w v v' := by
            intro c hv hxe hc hce hle
            rw [hxe]
            refine ⟨_, hG, _, run2 (some ⟨(ι g).blk, off * κ₀.size, none⟩) len c l hh inf hinf h0 h1 hc hl hr, ?_⟩
            simp only [RV]
            refine ⟨by omega, ?_⟩
            by_cases hz : hh.toNat - l.toNat = 0
            · left; rw [hz]
              refine ⟨rfl, _, _, rfl, fun ho _ => ?_⟩
              have e1 : off = 0 := by omega
              have e2 : l.toNat = 0 := by omega
              rw [e1, e2]
              simp [Addr.add]
              omega
            · right
              rw [if_neg (by omega)]
              refine ⟨hv, c - l.toNat, ?_, by omega, by omega⟩
              simp only [Option.map_some, Addr.add_lit, hsz, Nat.add_mul]
          cases ho : Nat.beq off 0 with
          | false =>
            rw [ho, cond_false] at h2
            rcases hx with ⟨hz, a, c, hxe, hcl⟩ | ⟨hv, c, hxe, hc, hce⟩
            · exact zero_ a c hxe hz (by omega) (by omega) hcl
            · exact go c hv hxe (by omega) hce (by omega)
          | true =>
            rw [ho, cond_true] at h2
            have e0 := Nat.eq_of_beq_eq_true ho
            rcases hx with ⟨hz, a, c, hxe, hcl⟩ | ⟨hv, c, hxe, hc, hce⟩
            · cases hv : (ι g).virt with
              | true =>
                have hx0 : xs.length = 0 := by
                  rcases hrb.2 with ⟨_, e⟩ | ⟨e, _⟩
                  · rw [e]; rfl
                  · rw [hv] at e; cases e
                exact zero_ a c hxe hz (by omega) (by omega) hcl
              | false =>
                obtain ⟨ea, ec⟩ := hcl e0 hv
                subst e0
                have := full hv
                exact go c hv (by rw [hxe, ea, hz, Nat.zero_mul]) (by omega) (by omega) (by rw [hrb.1]; omega)
            · have := full hv
              exact go c hv hxe (by omega) hce (by rw [hrb.1]; omega)
      · cases h
    · rename_i hex
      rw [hex] at hx
      simp only [RV] at hx
      obtain ⟨inf, hinf, h⟩ := Option.bind_eq_some_iff.1 h
      obtain ⟨l, hh, h0, h1, h2, hG, hl, hr⟩ := bd _ _ h
      have hl0 : l = 0 := by omega
      have hh0 : hh = 0 := by omega
      subst hl0 hh0
      rw [hx]
      refine ⟨_, hG, _, run none 0 0 0 0 inf hinf (by omega) (by omega) (by omega) (by omega) hl hr, ?_⟩
      simp only [RV]
      simp
    · cases h
theorem slice3_of {t : TypeId} {K : AV → Option AB → Option R} {r : R} {E : Env} {e : Operand → AV} {x hi mx : Operand} {lo : Option Operand} {ρ : Operand → Value} {d : Nat} (m : Mem w0 Fz0 ι Fz H w)
    (he : ∀ x, RV ι Fz w (e x) (ρ x)) (h : opR E (.slice t x lo (some hi) (some mx)) e H K d = some r) : ∃ v, K v none = some r ∧ ∃ v', (Instr.sliceAt t (ρ x) (lo.map ρ) (some (ρ hi)) (some (ρ mx))).run E.P w = .ok v' w ∧ RV ι Fz w v v' := by
  have hx := he x
  have hhi := he hi
  have hmx := he mx
  simp only [opR] at h
  obtain ⟨el, hu, h⟩ := elemK_of h
  split at h
  · rename_i κ xs k l k' hh k'' mm hex hel heh hem
    rw [hex] at hx
    rw [heh, RV_int] at hhi
    rw [hem, RV_int] at hmx
    cases hc : (sizeB E.P el κ.size && decide (hh = mm)) with
    | false => rw [hc] at h; cases h
    | true =>
      rw [hc, cond_true] at h
      simp only [Bool.and_eq_true, decide_eq_true_eq] at hc
      obtain ⟨hs, rfl⟩ := hc
      obtain ⟨inf, hinf, hsz⟩ := sizeB_of hs
      obtain ⟨p, hp, h⟩ := Option.bind_eq_some_iff.1 h
      obtain ⟨h0, h1, h2, rfl⟩ := chk2_of hp
      simp only [RV, Kd.isAgg, Bool.false_eq_true, if_false, RP] at hx
      obtain ⟨_, e1, a, c, hxe, hc, hx⟩ := hx
      simp only [List.cons.injEq, and_true] at e1
      subst e1
      rw [hxe, hhi, hmx]
      have e2 : (hh.toNat : Int) = hh := Int.toNat_of_nonneg (by omega)
      have hlo : (lo.map ρ = none ∧ l = 0) ∨ ∃ k, lo.map ρ = some (.int k l) := by
        cases lo with
        | none => left; simp only [Option.map_none, Option.getD_none] at hel; cases hel; exact ⟨rfl, rfl⟩
        | some o => right; simp only [Option.map_some, Option.getD_some] at hel; have := he o; rw [hel, RV_int] at this; exact ⟨k, by simp [this]⟩
      have hb : (Instr.sliceBounds true xs.length c (lo.map ρ) (some (.int k' hh)) (some (.int k'' hh))).run E.P w = .ok (l.toNat, hh.toNat, hh.toNat) w := by
        rcases hlo with ⟨hl, rfl⟩ | ⟨kl, hl⟩
        · rw [hl]
          simp only [Instr.sliceBounds, Sem.run_bind, Sem.run_pure, Result.andThen_ok, Option.isSome_some, if_true]
          rw [run_sliceBound w k'' hh c _ (by omega) (by omega)]
          simp only [Result.andThen_ok]
          rw [run_sliceBound w k' hh hh.toNat _ (by omega) (by omega)]
          rfl
        · rw [hl]
          simp only [Instr.sliceBounds, Sem.run_bind, Sem.run_pure, Result.andThen_ok, Option.isSome_some, if_true]
          rw [run_sliceBound w k'' hh c _ (by omega) (by omega)]
          simp only [Result.andThen_ok]
          rw [run_sliceBound w k' hh hh.toNat _ (by omega) (by omega)]
          simp only [Result.andThen_ok]
          rw [run_sliceBound w kl l hh.toNat _ h0 (by omega)]
          rfl
      have hlen : ((xs.drop l.toNat).take (hh.toNat - l.toNat)).length = hh.toNat - l.toNat := by rw [List.length_take, List.length_drop]; omega
      refine ⟨_, h, .slice (if hh.toNat = l.toNat then a else a.map (·.add (l.toNat * inf.size))) (hh.toNat - l.toNat) (hh.toNat - l.toNat), ?_, ?_⟩
      · simp [Instr.sliceAt, run_underlying hu, Instr.slice, hb, run_size hinf]
      · simp only [RV]
        refine ⟨⟨_, _, by rw [hlen], by rw [hlen]; exact Nat.le_refl _, ?_⟩, _, by rw [hlen]⟩
        by_cases hz : hh.toNat - l.toNat = 0
        · left; rw [hz]; simp
        · right
          rcases hx with rfl | ⟨b, off, rfl, hb', hx⟩
          · simp at h2; omega
          · rw [if_neg (by omega)]
            refine ⟨b, _, by simp only [Option.map_some, Addr.add_lit]; rfl, hb', fun i y hy => ?_⟩
            have hi' : i < hh.toNat - l.toNat := by
              rcases Nat.lt_or_ge i (hh.toNat - l.toNat) with h | h
              · exact h
              · rw [List.getElem?_eq_none (by omega)] at hy; cases hy
            rw [List.getElem?_take, if_pos hi', List.getElem?_drop] at hy
            obtain ⟨es, ha, hb'', hcx⟩ := hx _ y hy
            refine ⟨es, ha, hb'', ?_⟩
            rw [hsz, Nat.add_assoc, ← Nat.add_mul]
            exact hcx
  · cases h
end
end Go.Av
