/- Stores, appends and calls; then any one operation; then a list of operations in the text's order. -/
import Derived.Test.YtnoamanjajighaaAv9
import Derived.Lib.AppendZeros
set_option linter.unusedVariables false
set_option linter.unusedSimpArgs false
namespace Go.Av
open Go Go.RowKit

section
variable {R : Type} {P : Program} {w0 : Root} {Fz0 : Nat → Prop} {ι : Nat → HI} {Fz : Nat → Prop} {H : List (Nat × AB)} {w : World}

theorem okNew_df {df : List AV} {d : Nat} (h : okNew df d = true) : okDf df d = true ∧ d < 1000000 := by
  unfold okNew at h
  simp only [Bool.and_eq_true] at h
  exact ⟨h.2, Nat.le_of_ble_eq_true h.1⟩
/-- A new handle over a row of one's own. -/
theorem Behind.arr {st : St} {a : Act} {d : Nat} {el : TypeId} {κ : Kd} {xs : List (Den κ)} {vs : Array Value} {blk cap : Nat} {w' : World} (b : Behind w0 Fz0 ι Fz st a w) (hdf : okNew st.df d = true)
    (hbel : Bel w0.own w w') (hsz : w.heap.size ≤ w'.heap.size) (hw : ∀ b, Fz b → w'.heap[b]? = w.heap[b]?)
    (hl : ∀ h, (getH st.H h).live → (ι h).virt = false → w'.heap[(ι h).blk]? = w.heap[(ι h).blk]?)
    (hi : w0.own blk ∧ blk < w'.heap.size ∧ ¬ Fz blk ∧ ∀ h, h ≠ d → (getH st.H h).live → (ι h).virt = false → (ι h).blk ≠ blk)
    (hh : w'.heap[blk]? = some (.cells vs el (0, 0))) (hr : Row Fz w κ xs vs.toList) (hlen : xs.length ≤ cap) (hc : cap ≤ maxLen) (hs : vs.size = cap * κ.size) :
    Behind w0 Fz0 (upd ι d ⟨blk, cap, xs.length, false⟩) Fz ⟨strikeF d st.fr, (d, .arr el κ xs) :: strikeH d st.H, st.df⟩ a w' ∧ RV (upd ι d ⟨blk, cap, xs.length, false⟩) Fz w' (.own κ d) (.slice (some ⟨blk, 0, none⟩) xs.length cap) := by
  refine ⟨b.strike hw (fun _ h => h) (fun h hh => upd_ne _ _ _ hh) (okNew_df hdf).1 (b.2.2.put hbel hsz hw hl (fun _ => hi) ?_ (okNew_df hdf).2 (fun h => by cases h)), ?_⟩
  · simp only [RB, upd_at]
    refine ⟨trivial, .inr ⟨trivial, vs, hh, hlen, hc, hs, fun i x hx => ?_⟩⟩
    obtain ⟨es, h1, h2, h3⟩ := hr.mono hw i x hx
    exact ⟨es, h1, h2, fun j u hj => by simpa using h3 j u hj⟩
  · simp only [RV, upd_at]
    exact .inr ⟨trivial, trivial⟩
theorem Behind.virt {st : St} {a : Act} {d : Nat} {el : TypeId} {κ : Kd} (b : Behind w0 Fz0 ι Fz st a w) (hdf : okNew st.df d = true) :
    Behind w0 Fz0 (upd ι d ⟨0, 0, 0, true⟩) Fz ⟨strikeF d st.fr, (d, .arr el κ []) :: strikeH d st.H, st.df⟩ a w ∧ RV (upd ι d ⟨0, 0, 0, true⟩) Fz w (.own κ d) (.slice none 0 0) := by
  refine ⟨b.strike (fun _ _ => rfl) (fun _ h => h) (fun h hh => upd_ne _ _ _ hh) (okNew_df hdf).1 (b.2.2.put (Bel.refl _ _) (Nat.le_refl _) (fun _ _ => rfl) (fun _ _ _ => rfl) (fun h => by cases h) ?_ (okNew_df hdf).2 (fun _ => ⟨rfl, rfl⟩)), ?_⟩
  · simp only [RB, upd_at]
    exact ⟨rfl, .inl ⟨trivial, trivial⟩⟩
  · simp only [RV, upd_at]
    exact .inl ⟨trivial, trivial⟩
theorem below_drew_alloc (w : World) (o : Obj) : Below w.heap.size w (w.drew.alloc o) :=
  ((Below.refl _ _).drew).alloc (Nat.le_refl _) _
/-- A new block at the memory's end. -/
theorem Behind.fresh {st : St} {a : Act} {d : Nat} {el : TypeId} {κ : Kd} {xs : List (Den κ)} {vs : Array Value} {cap : Nat} (b : Behind w0 Fz0 ι Fz st a w) (hdf : okNew st.df d = true)
    (hr : Row Fz w κ xs vs.toList) (hlen : xs.length ≤ cap) (hc : cap ≤ maxLen) (hs : vs.size = cap * κ.size) :
    Behind w0 Fz0 (upd ι d ⟨w.heap.size, cap, xs.length, false⟩) Fz ⟨strikeF d st.fr, (d, .arr el κ xs) :: strikeH d st.H, st.df⟩ a (w.drew.alloc (.cells vs el)) ∧
      RV (upd ι d ⟨w.heap.size, cap, xs.length, false⟩) Fz (w.drew.alloc (.cells vs el)) (.own κ d) (.slice (some ⟨w.heap.size, 0, none⟩) xs.length cap) := by
  have m := b.2.2
  have hbel := below_drew_alloc w (.cells vs el)
  refine b.arr hdf (Bel.of hbel fun k hk => w0.big k (Nat.le_trans m.below.size hk)) hbel.size (fun k hk => hbel.block k (m.fz k hk)) (fun h hl hv => hbel.block _ (m.sep h hl hv).2.1) ?_ (heap_new w.drew _) hr hlen hc hs
  refine ⟨w0.big _ m.below.size, by simp, fun hf => ?_, fun h _ hl hv e => ?_⟩
  · have := m.fz _ hf; omega
  · have := (m.sep h hl hv).2.1; omega
theorem zeroSz_of {t : TypeId} {n : Nat} (h : zeroSz P t n = true) : ∃ i z, P.info? t = some i ∧ i.zero = some z ∧ z.cells.size = n := by
  unfold zeroSz at h
  split at h
  · rename_i i hi
    split at h
    · rename_i z hz; exact ⟨i, z, hi, hz, Nat.eq_of_beq_eq_true h⟩
    · cases h
  · cases h
theorem Lie.news {news : List Value} {b off : Nat} (h : Lie w news b off) : ∀ j u, news[j]? = some u → w.cell? ((⟨b, off, none⟩ : Addr).add j) = some u := fun j u hj => by rw [Addr.add_lit]; exact h j u hj

theorem live_not_gone (h : Nat) {H : List (Nat × AB)} {k : Nat} (hk : (getH ((h, .gone) :: H) k).live) : k ≠ h ∧ (getH H k).live := by
  rw [getH_cons] at hk
  split at hk
  · exact hk.elim
  · rename_i hne; exact ⟨Ne.symm hne, hk⟩
theorem appX0_same {t ty : TypeId} {st : St} {s x : AV} {d : Nat} {K : AV → List (Nat × AB) → List Nat → Option R} {r : R} {E : Env} {a : Act} {vs vx : Value} (b : Behind w0 Fz0 ι Fz st a w) (hs : RV ι Fz w s vs) (hx : RV ι Fz w x vx)
    (h : appX0 E t st.H st.df s x d K = some r) : ∃ v ks, K v ks [d] = some r ∧ okNew st.df d = true ∧ d ∈ ks.map Prod.fst ∧ ∃ v' w', (Builtin.append_ #[t, t] ty #[vs, vx]).run E.P w = .ok v' w' ∧ ∃ (ι' : Nat → HI) (Fz' : Nat → Prop), Behind w0 Fz0 ι' Fz' ⟨strikeF d st.fr, ks ++ strikeH d st.H, st.df⟩ a w' ∧ RV ι' Fz' w' v v' ∧ (∀ n, n ≠ d → ι' n = ι n) := by
  unfold appX0 at h
  obtain ⟨el, hu, h⟩ := elemK_of h
  split at h
  · rename_i i κ hi hkd
    cases hc : (Nat.beq i.size κ.size && Nat.ble 1 κ.size && zeroSz E.P el κ.size && Nat.ble 1 i.bytes) with
    | false => rw [hc] at h; cases h
    | true =>
      rw [hc, cond_true] at h
      simp only [Bool.and_eq_true] at hc
      obtain ⟨⟨⟨hsz, h1⟩, hzs⟩, hby⟩ := hc
      have hby := Nat.le_of_ble_eq_true hby
      have hbig' : ∀ n : Nat, n * i.bytes ≤ 140737488355328 → n ≤ maxLen := fun n hn => by
        have := Nat.mul_le_mul_left n hby
        simp only [maxLen]; omega
      have hsz := Nat.eq_of_beq_eq_true hsz
      have h1 := Nat.le_of_ble_eq_true h1
      obtain ⟨i', z, hi', hz, hzsz⟩ := zeroSz_of hzs
      rw [hi] at hi'
      simp only [Option.some.injEq] at hi'
      subst hi'
      obtain ⟨ys, hys, h⟩ := Option.bind_eq_some_iff.1 h
      cases hdf : okNew st.df d with
      | false => rw [hdf] at h; cases h
      | true =>
        rw [hdf, Bool.not_true, cond_false] at h
        obtain ⟨xa, xc, hxe, hsrc⟩ := src_of b.2.2 hys hx
        have news : ys ≠ [] → ∃ ad news, xa = some ad ∧ news.length = ys.length * i.size ∧ (∀ j u, news[j]? = some u → w.cell? (ad.add j) = some u) ∧ (∀ u ∈ news, u.oneCell' = true) ∧ Row Fz w κ ys news := by
          intro hne
          rcases hsrc with e | ⟨bb, off, ha, hsrc⟩
          · exact absurd e hne
          · obtain ⟨news, a1, a2, a3, a4⟩ := flatten_cells ys bb off hsrc
            exact ⟨_, news, ha, by rw [hsz]; exact a1, a2.news, a3, a4⟩
        have nil (st1 : St) (b1 : Behind w0 Fz0 ι Fz st1 a w) (hdf1 : okNew st1.df d = true) (hlim : ys.length * i.bytes ≤ 140737488355328)  :
            ∃ v' w', (Builtin.append_ #[t, t] ty #[.slice none 0 0, vx]).run E.P w = .ok v' w' ∧ ∃ (ι' : Nat → HI) (Fz' : Nat → Prop), Behind w0 Fz0 ι' Fz' ⟨strikeF d st1.fr, (d, .arr el κ ys) :: strikeH d st1.H, st1.df⟩ a w' ∧ RV ι' Fz' w' (.own κ d) v' ∧ (∀ n, n ≠ d → ι' n = ι n) := by
          by_cases hy : ys = []
          · subst hy
            rw [hxe]
            obtain ⟨p, q⟩ := b1.virt (el := el) (κ := κ) hdf1
            exact ⟨_, w, run_append_zero hu hi none xa 0 0 xc (Nat.le_refl _), _, _, p, q, fun n hn => upd_ne _ _ _ hn⟩
          · obtain ⟨ad, nw, rfl, a1, a2, a3, a4⟩ := news hy
            have hpos : 0 < ys.length := List.length_pos_iff.2 hy
            by_cases hbig : ys.length ≤ maxLen
            · have hsm : ys.length ≤ 9223372036854775807 := by simp only [maxLen] at hbig; omega
              have hr := run_append_nil (P := E.P) w t ty el i z hu hi hz ad ys.length xc nw a1 a2 hpos (by omega) (by omega)
              have hge := grownCap_ge w ys.length 0 el
              obtain ⟨p, q⟩ := b1.fresh (el := el) (κ := κ) (xs := ys) (vs := nw.toArray ++ Builtin.zeroCells z.cells (grownCap w ys.length 0 el - ys.length)) (cap := grownCap w ys.length 0 el) hdf1
                (by simpa using a4.more _) hge (grownCap_le_maxLen w _ _ _ hbig) (by
                  rw [Array.size_append, List.size_toArray, size_zeroCells, a1, hsz, hzsz, ← Nat.add_mul]; congr 1; omega)
              rw [hxe]
              exact ⟨_, _, hr, _, _, p, q, fun n hn => upd_ne _ _ _ hn⟩
            · exact absurd (hbig' _ hlim) hbig
        split at h
        · -- onto nil
          simp only [RV] at hs
          subst hs
          cases hm : (memN E.cut d && !Nat.ble 1 ys.length) with
          | false =>
            rw [hm, cond_false] at h
            obtain ⟨_, hlim, h⟩ := Option.bind_eq_some_iff.1 h
            obtain ⟨v', w', e1, ι', Fz', e2, e3⟩ := nil st b hdf (lim_of hlim)
            exact ⟨_, _, h, rfl, by simp, v', w', e1, ι', Fz', e2, e3⟩
          | true =>
            rw [hm, cond_true] at h
            simp only [Bool.and_eq_true, Bool.not_eq_true'] at hm
            have hy : ys = [] := by
              have : ¬ 1 ≤ ys.length := fun q => by have := Nat.ble_eq_true_of_le q; rw [this] at hm; simp at hm
              exact List.length_eq_zero_iff.1 (by omega)
            subst hy
            rw [hxe]
            exact ⟨_, _, h, rfl, by simp, _, w, run_append_zero hu hi none xa 0 0 xc (Nat.le_refl _), ι, Fz, b.strike (fun _ _ => rfl) (fun _ h => h) (fun _ _ => rfl) (okNew_df hdf).1 (b.2.2.strike d), by simp [RV], fun _ _ => rfl⟩
        · -- onto a row that has no room
          rename_i κ' zs0 hold0 hold1
          obtain ⟨zs, hzs', h⟩ := Option.bind_eq_some_iff.1 h
          obtain ⟨e2, hcast⟩ := cast_elim hzs'
          simp only [Kd.list.injEq] at e2
          subst e2
          simp only at hcast
          subst hcast
          cases hy1 : Nat.ble 1 ys.length with
          | false => rw [hy1] at h; cases h
          | true =>
            rw [hy1, cond_true] at h
            have hpos := Nat.le_of_ble_eq_true hy1
            have hyne : ys ≠ [] := fun e => by rw [e] at hpos; simp at hpos
            obtain ⟨_, hlim, h⟩ := Option.bind_eq_some_iff.1 h
            have hlim := lim_of hlim
            simp only [RV] at hs
            obtain ⟨⟨a0, c0, e0, hc0, hcells⟩, a1', e1'⟩ := hs
            rw [e0] at e1'
            simp only [Value.slice.injEq, true_and] at e1'
            obtain ⟨rfl, rfl⟩ := e1'
            subst e0
            refine ⟨_, _, h, rfl, by simp, ?_⟩
            have old : ∃ olds : List Value, olds.length = zs0.length * i.size ∧ (∀ ad, a0 = some ad → ∀ j u, olds[j]? = some u → w.cell? (ad.add j) = some u) ∧ Row Fz w κ' zs0 olds := by
              rcases hcells with rfl | ⟨bb, off, rfl, _, hcells⟩
              · exact ⟨[], by simp, fun _ _ j u hj => by simp at hj, Row.nil⟩
              · obtain ⟨olds, b1, b2, b3, b4⟩ := flatten_cells zs0 bb off hcells
                refine ⟨olds, by rw [hsz]; exact b1, fun ad e j u hj => ?_, b4⟩
                simp only [Option.some.injEq] at e
                subst e
                exact b2.news j u hj
            obtain ⟨olds, o1, o2, o3⟩ := old
            by_cases ha0 : a0 = none
            · have hz0 : zs0 = [] := by
                rcases hcells with e | ⟨_, _, e, _⟩
                · exact e
                · rw [ha0] at e; cases e
              subst hz0
              subst ha0
              obtain ⟨v', w', e1, ι', Fz', e2, e3⟩ := nil st b hdf (by simpa using hlim)
              exact ⟨v', w', e1, ι', Fz', by rw [List.nil_append]; exact e2, e3⟩
            · obtain ⟨ad0, rfl⟩ := Option.ne_none_iff_exists'.1 ha0
              obtain ⟨ad, nw, rfl, a1, a2, a3, a4⟩ := news hyne
              by_cases hbig : zs0.length + ys.length ≤ maxLen
              · have hsm : zs0.length + ys.length ≤ 9223372036854775807 := by simp only [maxLen] at hbig; omega
                have hr := run_append_grow (P := E.P) w t ty el i z hu hi hz ad0 zs0.length zs0.length olds o1 (o2 ad0 rfl) ad ys.length xc nw a1 a2 (by omega) (by omega) (growslice_fits (by omega) hlim)
                have hge := grownCap_ge w (zs0.length + ys.length) zs0.length el
                obtain ⟨p, q⟩ := b.fresh (el := el) (κ := κ') (xs := zs0 ++ ys) (vs := olds.toArray ++ nw.toArray ++ Builtin.zeroCells z.cells (grownCap w (zs0.length + ys.length) zs0.length el - (zs0.length + ys.length))) (cap := grownCap w (zs0.length + ys.length) zs0.length el) hdf
                  (by
                    have := (Row.append o3 (by rw [o1, hsz]) a4).more (Builtin.zeroCells z.cells (grownCap w (zs0.length + ys.length) zs0.length el - (zs0.length + ys.length))).toList
                    simpa using this) (by rw [List.length_append]; exact hge) (grownCap_le_maxLen w _ _ _ hbig) (by
                    rw [Array.size_append, Array.size_append, List.size_toArray, List.size_toArray, size_zeroCells, a1, o1, hsz, hzsz, ← Nat.add_mul, ← Nat.add_mul]; congr 1; omega)
                rw [List.length_append] at p q
                rw [hxe]
                exact ⟨_, _, hr, _, _, p, q, fun n hn => upd_ne _ _ _ hn⟩
              · exact absurd (hbig' _ hlim) hbig
        · rename_i κ' g hold0 hold1
          split at h
          · rename_i el' κ'' xs hg
            cases hc2 : (Nat.beq el el') with
            | false => rw [hc2] at h; cases h
            | true =>
              rw [hc2, cond_true] at h
              have e1 := Nat.eq_of_beq_eq_true hc2
              subst e1
              obtain ⟨zs, hzs', h⟩ := Option.bind_eq_some_iff.1 h
              obtain ⟨e2, hcast⟩ := cast_elim hzs'
              simp only [Kd.list.injEq] at e2
              subst e2
              simp only at hcast
              subst hcast
              obtain ⟨_, hlim, h⟩ := Option.bind_eq_some_iff.1 h
              have hlim := lim_of hlim
              refine ⟨_, _, h, ?_⟩
              have b1 : Behind w0 Fz0 ι Fz ⟨st.fr, (g, .gone) :: st.H, st.df⟩ a w := ⟨b.1, b.2.1, b.2.2.drop fun k => by rw [getH_cons]; by_cases e : g = k; (· rw [if_pos e]; exact .inr rfl); (· rw [if_neg e]; exact .inl rfl)⟩
              have hrb := b.2.2.rb g
              rw [hg] at hrb
              simp only [RB] at hrb
              simp only [RV] at hs
              rcases hs with ⟨hv, rfl⟩ | ⟨hv, rfl⟩
              · rcases hrb.2 with ⟨_, e⟩ | ⟨e, _⟩
                · subst e
                  obtain ⟨v', w', e1, ι', Fz', e2, e3⟩ := nil _ b1 hdf (by simpa using hlim)
                  exact ⟨rfl, by simp, v', w', e1, ι', Fz', by rw [List.nil_append]; exact e2, by simpa using e3.1, e3.2⟩
                · rw [hv] at e; cases e
              · rcases hrb.2 with ⟨e, _⟩ | ⟨_, cur, hh, hlen, hcm, hcs, hrow⟩
                · rw [hv] at e; cases e
                have hll := hrb.1
                have hlive : (getH st.H g).live := by rw [hg]; trivial
                obtain ⟨s1, s2, s3⟩ := b.2.2.sep g hlive hv
                have hrow' : Row Fz w κ'' xs (cur.toList.take (xs.length * κ''.size)) := by
                  intro k y hy
                  obtain ⟨es, a1, a2, a3⟩ := hrow k y hy
                  refine ⟨es, a1, a2, fun j u hj => ?_⟩
                  have hk := (List.getElem?_eq_some_iff.1 hy).1
                  have hjl := (List.getElem?_eq_some_iff.1 hj).1
                  have : k * κ''.size + κ''.size ≤ xs.length * κ''.size := by
                    rw [← Nat.succ_mul]; exact Nat.mul_le_mul_right _ hk
                  rw [List.getElem?_take, if_pos (by omega)]
                  simpa using a3 j u hj
                have htl : (cur.toList.take (xs.length * κ''.size)).length = xs.length * κ''.size := by
                  have e9 : cur.toList.length = (ι g).cap * κ''.size := by simpa using hcs
                  rw [List.length_take, e9]
                  have := Nat.mul_le_mul_right κ''.size hlen
                  omega
                have hothers : ∀ h, h ≠ d → (getH ((g, .gone) :: st.H) h).live → (ι h).virt = false → (ι h).blk ≠ (ι g).blk := fun h hd hl hv' e => by
                  obtain ⟨n1, n2⟩ := live_not_gone g hl
                  exact n1 (b.2.2.inj h g n2 hlive hv' hv e)
                rw [hll]
                by_cases hy : ys = []
                · subst hy
                  rw [hxe]
                  obtain ⟨p, q⟩ := b1.arr (d := d) (el := el) (κ := κ'') (xs := xs) (vs := cur) (blk := (ι g).blk) (cap := (ι g).cap) (w' := w) hdf (Bel.refl _ _) (Nat.le_refl _) (fun _ _ => rfl) (fun _ _ _ => rfl)
                    ⟨s1, s2, s3, hothers⟩ hh (fun k y hy => by
                      obtain ⟨es, a1, a2, a3⟩ := hrow k y hy
                      exact ⟨es, a1, a2, fun j u hj => by simpa using a3 j u hj⟩) hlen hcm hcs
                  refine ⟨rfl, by simp, _, w, run_append_zero hu hi _ xa _ _ xc hlen, _, _, ?_, q, fun n hn => upd_ne _ _ _ hn⟩
                  rw [List.append_nil]
                  exact p
                · obtain ⟨ad, nw, rfl, a1, a2, a3, a4⟩ := news hy
                  rw [hxe]
                  by_cases hroom : xs.length + ys.length ≤ (ι g).cap
                  · have hfit : xs.length * i.size + nw.length ≤ cur.size := by rw [a1, hcs, hsz, ← Nat.add_mul]; exact Nat.mul_le_mul_right _ hroom
                    have hr := run_append_room (P := E.P) w t ty el i hu hi (ι g).blk xs.length (ι g).cap cur hh ad ys.length xc nw a1 a2 a3 hroom hfit
                    have hset := setRow_heap w (ι g).blk cur (cur.toList.take (xs.length * i.size) ++ nw ++ cur.toList.drop (xs.length * i.size + nw.length)).toArray el (0, 0) hh
                    obtain ⟨p, q⟩ := b1.arr (d := d) (el := el) (κ := κ'') (xs := xs ++ ys) (vs := (cur.toList.take (xs.length * i.size) ++ nw ++ cur.toList.drop (xs.length * i.size + nw.length)).toArray) (blk := (ι g).blk) (cap := (ι g).cap)
                      (w' := w.setRow (ι g).blk (cur.toList.take (xs.length * i.size) ++ nw ++ cur.toList.drop (xs.length * i.size + nw.length)).toArray) hdf
                      ⟨rfl, rfl, rfl, by simp [World.setRow], fun k hk => setRow_other w _ k _ (fun e => hk (e ▸ s1))⟩ (by simp [World.setRow])
                      (fun k hk => setRow_other w _ k _ (fun e => s3 (e ▸ hk)))
                      (fun h hl hv' => setRow_other w _ _ _ (fun e => by
                        obtain ⟨n1, n2⟩ := live_not_gone g hl
                        exact n1 (b.2.2.inj h g n2 hlive hv' hv e)))
                      ⟨s1, by simpa [World.setRow] using s2, s3, hothers⟩ hset (by
                        have := (Row.append hrow' htl a4).more (cur.toList.drop (xs.length * i.size + nw.length))
                        rw [hsz]
                        rw [hsz] at this
                        simpa using this) (by simpa using hroom) hcm (by
                        have hf := hfit
                        simp only [List.size_toArray, List.length_append, List.length_take, List.length_drop, Array.length_toList, ← hcs]
                        omega)
                    rw [List.length_append] at p q
                    exact ⟨rfl, by simp, _, _, hr, _, _, p, q, fun n hn => upd_ne _ _ _ hn⟩
                  · by_cases hbig : xs.length + ys.length ≤ maxLen
                    · have hold : ∀ j v, (cur.toList.take (xs.length * κ''.size))[j]? = some v → w.cell? ((⟨(ι g).blk, 0, none⟩ : Addr).add j) = some v := fun j v hj => by
                        rw [Addr.add_lit, Nat.zero_add]
                        rw [List.getElem?_take] at hj
                        split at hj
                        · simp only [World.cell?, hh]; simpa using hj
                        · cases hj
                      have hsm : xs.length + ys.length ≤ 9223372036854775807 := by simp only [maxLen] at hbig; omega
                      have hr := run_append_grow (P := E.P) w t ty el i z hu hi hz ⟨(ι g).blk, 0, none⟩ xs.length (ι g).cap (cur.toList.take (xs.length * κ''.size)) (by rw [htl, hsz]) hold ad ys.length xc nw a1 a2 (by omega) (by omega) (growslice_fits (by omega) hlim)
                      have hge := grownCap_ge w (xs.length + ys.length) (ι g).cap el
                      obtain ⟨p, q⟩ := b1.fresh (el := el) (κ := κ'') (xs := xs ++ ys) (vs := (cur.toList.take (xs.length * κ''.size)).toArray ++ nw.toArray ++ Builtin.zeroCells z.cells (grownCap w (xs.length + ys.length) (ι g).cap el - (xs.length + ys.length))) (cap := grownCap w (xs.length + ys.length) (ι g).cap el) hdf
                        (by
                          have := (Row.append hrow' htl a4).more (Builtin.zeroCells z.cells (grownCap w (xs.length + ys.length) (ι g).cap el - (xs.length + ys.length))).toList
                          simpa using this) (by rw [List.length_append]; exact hge) (grownCap_le_maxLen w _ _ _ hbig) (by
                          rw [Array.size_append, Array.size_append, List.size_toArray, List.size_toArray, size_zeroCells, a1, htl, hsz, hzsz, ← Nat.add_mul, ← Nat.add_mul]; congr 1; omega)
                      rw [List.length_append] at p q
                      exact ⟨rfl, by simp, _, _, hr, _, _, p, q, fun n hn => upd_ne _ _ _ hn⟩
                    · exact absurd (hbig' _ hlim) hbig
          · cases h
        · cases h
  · cases h
theorem strike_strike (d : Nat) (v : AV) : (v.strike d).strike d = v.strike d := by
  unfold AV.strike
  cases h : v.ment d with
  | true => rfl
  | false => simp only [cond_false]; rw [h]; rfl
theorem AB_strike_strike (d : Nat) (b : AB) : (b.strike d).strike d = b.strike d := by
  cases b with
  | box cs => simp only [AB.strike, List.map_map]; congr 1; exact List.map_congr_left fun v _ => strike_strike d v
  | _ => rfl
theorem appX_elem {t : TypeId} {H : List (Nat × AB)} {df : List AV} {s x : AV} {d : Nat} {K : AV → List (Nat × AB) → List Nat → Option R} {r : R} {E : Env} (h : appX E t H df s x d K = some r) : ∃ el, E.P.underlying t = some (.slice el) ∧ True := by
  have go : ∀ {H : List (Nat × AB)} {s : AV} {K : AV → List (Nat × AB) → List Nat → Option R}, appX0 E t H df s x d K = some r → ∃ el, E.P.underlying t = some (.slice el) ∧ True := by
    intro H s K h
    unfold appX0 at h
    obtain ⟨el, hu, _⟩ := elemK_of h
    exact ⟨el, hu, trivial⟩
  unfold appX at h
  split at h
  · rename_i κ₀ g off len
    split at h
    · rename_i e κ xs hg
      cases hc : (decide (κ₀ = κ) && okNew df d && x.isPv && Nat.beq off 0 && Nat.ble 1 len) with
      | false => rw [hc] at h; cases h
      | true => rw [hc, cond_true] at h; exact go h
    · cases h
  · exact go h
theorem appX_same {t ty : TypeId} {st : St} {s x : AV} {d : Nat} {K : AV → List (Nat × AB) → List Nat → Option R} {r : R} {E : Env} {a : Act} {vs vx : Value} (b : Behind w0 Fz0 ι Fz st a w) (hs : RV ι Fz w s vs) (hx : RV ι Fz w x vx)
    (h : appX E t st.H st.df s x d K = some r) : ∃ v ks, K v ks [d] = some r ∧ okNew st.df d = true ∧ d ∈ ks.map Prod.fst ∧ ∃ v' w', (Builtin.append_ #[t, t] ty #[vs, vx]).run E.P w = .ok v' w' ∧ ∃ (ι' : Nat → HI) (Fz' : Nat → Prop), Behind w0 Fz0 ι' Fz' ⟨strikeF d st.fr, ks ++ strikeH d st.H, st.df⟩ a w' ∧ RV ι' Fz' w' v v' ∧ (∀ n, n ≠ d → ι' n = ι n) := by
  unfold appX at h
  split at h
  · rename_i κ₀ g off len
    split at h
    · rename_i e κ xs hg
      cases hc : (decide (κ₀ = κ) && okNew st.df d && x.isPv && Nat.beq off 0 && Nat.ble 1 len) with
      | false => rw [hc] at h; cases h
      | true =>
        rw [hc, cond_true] at h
        simp only [Bool.and_eq_true, decide_eq_true_eq] at hc
        obtain ⟨⟨⟨⟨rfl, hdf⟩, hpv⟩, ho⟩, hl⟩ := hc
        have ho := Nat.eq_of_beq_eq_true ho
        have hl := Nat.le_of_ble_eq_true hl
        subst ho
        have m := b.2.2
        have hrb := m.rb g
        rw [hg] at hrb
        simp only [RB] at hrb
        simp only [RV] at hs
        obtain ⟨hle, hs⟩ := hs
        rcases hs with ⟨e0, _⟩ | ⟨hv, c, rfl, hc1, hc2⟩
        · omega
        have hcc : c = (ι g).cap := by omega
        subst hcc
        rcases hrb.2 with ⟨e0, _⟩ | ⟨_, cur, hh, hlen, hcm, hcs, hrow⟩
        · rw [hv] at e0; cases e0
        have b1 : Behind w0 Fz0 ι Fz ⟨st.fr, (g, .gone) :: st.H, st.df⟩ a w := ⟨b.1, b.2.1, m.drop fun k => by rw [getH_cons]; by_cases e : g = k; (· rw [if_pos e]; exact .inr rfl); (· rw [if_neg e]; exact .inl rfl)⟩
        have hlive : (getH st.H g).live := by rw [hg]; trivial
        obtain ⟨s1, s2, s3⟩ := m.sep g hlive hv
        have hothers : ∀ h, h ≠ d → (getH ((g, .gone) :: st.H) h).live → (ι h).virt = false → (ι h).blk ≠ (ι g).blk := fun h hd hl hv' e => by
          obtain ⟨n1, n2⟩ := live_not_gone g hl
          exact n1 (m.inj h g n2 hlive hv' hv e)
        have htl : (xs.take len).length = len := by rw [List.length_take]; omega
        obtain ⟨p, q⟩ := b1.arr (d := d) (el := e) (κ := κ₀) (xs := xs.take len) (vs := cur) (blk := (ι g).blk) (cap := (ι g).cap) (w' := w) hdf (Bel.refl _ _) (Nat.le_refl _) (fun _ _ => rfl) (fun _ _ _ => rfl)
          ⟨s1, s2, s3, hothers⟩ hh (fun k y hy => by
            have hy' : xs[k]? = some y := by
              rw [List.getElem?_take] at hy
              split at hy
              · exact hy
              · cases hy
            obtain ⟨es, a1, a2, a3⟩ := hrow k y hy'
            exact ⟨es, a1, a2, fun j u hj => by simpa using a3 j u hj⟩) (by rw [htl]; omega) hcm hcs
        rw [htl] at q
        have hx1 : RV (upd ι d ⟨(ι g).blk, (ι g).cap, (xs.take len).length, false⟩) Fz w x vx := by
          exact RV_mono (fun _ _ => rfl) (fun _ h => h) _ _ (fun k hk => by
            have := pvL_ment k (l := [x]) (by simp [hpv])
            simp only [mentL, Bool.or_false] at this
            rw [this] at hk; cases hk) hx
        rw [Nat.zero_mul]
        have hst1 : strikeH d ((g, AB.gone) :: st.H) = (g, .gone) :: strikeH d st.H := rfl
        rw [hst1] at p
        rw [htl] at p hx1
        obtain ⟨v, ks, hk, _, hdk, v', w', hr, ι', Fz', hb', hv', hι⟩ := appX0_same (ty := ty) (st := ⟨strikeF d st.fr, (d, .arr e κ₀ (xs.take len)) :: (g, .gone) :: strikeH d st.H, st.df⟩) p q hx1 h
        refine ⟨v, _, hk, hdf, by rw [List.map_append]; exact List.mem_append_left _ hdk, v', w', hr, ι', Fz', ⟨fun t => ?_, hb'.2.1, hb'.2.2.drop fun k => .inl ?_⟩, hv', fun n hn => (hι n hn).trans (upd_ne _ _ _ hn)⟩
        · have := hb'.1 t
          rwa [getF_strike, getF_strike, strike_strike, ← getF_strike] at this
        · show getH ((ks ++ [(g, .gone)]) ++ strikeH d st.H) k = getH (ks ++ strikeH d ((d, .arr e κ₀ (xs.take len)) :: (g, .gone) :: strikeH d st.H)) k
          rw [List.append_assoc]
          have key : ∀ (l : List (Nat × AB)) (A B : List (Nat × AB)), (k ∉ l.map Prod.fst → getH A k = getH B k) → getH (l ++ A) k = getH (l ++ B) k := by
            intro l A B
            induction l with
            | nil => intro h; exact h (by simp)
            | cons p l ih =>
              obtain ⟨n, bb⟩ := p
              intro h
              rw [List.cons_append, List.cons_append, getH_cons, getH_cons]
              by_cases e1 : n = k
              · rw [if_pos e1, if_pos e1]
              · rw [if_neg e1, if_neg e1]
                exact ih fun hn => h (by simp only [List.map_cons, List.mem_cons, not_or]; exact ⟨fun e => e1 e.symm, hn⟩)
          refine key ks _ _ fun hn => ?_
          have hkd : d ≠ k := fun e => hn (e ▸ hdk)
          show getH ((g, .gone) :: strikeH d st.H) k = getH (strikeH d ((d, .arr e κ₀ (xs.take len)) :: (g, .gone) :: strikeH d st.H)) k
          rw [getH_strike, getH_cons (s := d), if_neg hkd, getH_cons]
          by_cases e1 : g = k
          · simp only [if_pos e1]; rfl
          · simp only [if_neg e1]; rw [getH_strike, AB_strike_strike]
    · cases h
  · exact appX0_same b hs hx h
theorem appX_of {t t' ty : TypeId} {st : St} {s x : AV} {d : Nat} {K : AV → List (Nat × AB) → List Nat → Option R} {r : R} {E : Env} {a : Act} {vs vx : Value} (b : Behind w0 Fz0 ι Fz st a w) (hs : RV ι Fz w s vs) (hx : RV ι Fz w x vx)
    (htt : sameSl E.P t t' = true) (h : appX E t st.H st.df s x d K = some r) : ∃ v ks, K v ks [d] = some r ∧ okNew st.df d = true ∧ d ∈ ks.map Prod.fst ∧ ∃ v' w', (Builtin.append_ #[t, t'] ty #[vs, vx]).run E.P w = .ok v' w' ∧ ∃ (ι' : Nat → HI) (Fz' : Nat → Prop), Behind w0 Fz0 ι' Fz' ⟨strikeF d st.fr, ks ++ strikeH d st.H, st.df⟩ a w' ∧ RV ι' Fz' w' v v' ∧ (∀ n, n ≠ d → ι' n = ι n) := by
  have hrun : ∀ args w, (Builtin.append_ #[t, t'] ty args).run E.P w = (Builtin.append_ #[t, t] ty args).run E.P w := by
    unfold sameSl at htt
    rw [Bool.or_eq_true] at htt
    rcases htt with htt | htt
    · have := Nat.eq_of_beq_eq_true htt
      subst this; intro args w; rfl
    · split at htt
      · rename_i e' hu'
        obtain ⟨el, hu, _⟩ := appX_elem h
        intro args w
        simp only [Builtin.append_]
        cases args[0]? <;> cases args[1]? <;> try rfl
        rename_i sv xv
        have hz : ∀ {α : Type} (f : Bool → Sem α) (w1 : World), (do let u ← underlying t'; f (u matches .int _) : Sem α).run E.P w1 = (f false).run E.P w1 := by
          intro α f w1; simp only [Sem.run_bind, run_underlying hu', Result.andThen_ok]
        have hz2 : ∀ {α : Type} (f : Bool → Sem α) (w1 : World), (do let u ← underlying t; f (u matches .int _) : Sem α).run E.P w1 = (f false).run E.P w1 := by
          intro α f w1; simp only [Sem.run_bind, run_underlying hu, Result.andThen_ok]
        cases sv <;> simp only [Sem.run_bind, run_underlying hu, run_underlying hu', Result.andThen_ok, List.getElem?_toArray, List.getElem?_cons_zero, List.getElem?_cons_succ] <;> try rfl
        all_goals
          congr 1
          funext size w1
          simp [run_underlying hu, run_underlying hu']
      · cases htt
  simp only [hrun]
  exact appX_same b hs hx h
theorem appZ_of {t t' ty : TypeId} {st : St} {s x : AV} {d : Nat} {K : AV → List (Nat × AB) → List Nat → Option R} {r : R} {E : Env} {a : Act} {vs vx : Value} (b : Behind w0 Fz0 ι Fz st a w) (hs : RV ι Fz w s vs) (hx : RV ι Fz w x vx)
    (h : appZ E t t' st.df s x d K = some r) : ∃ v ks, K v ks [d] = some r ∧ okNew st.df d = true ∧ d ∈ ks.map Prod.fst ∧ ∃ v' w', (Builtin.append_ #[t, t'] ty #[vs, vx]).run E.P w = .ok v' w' ∧ ∃ (ι' : Nat → HI) (Fz' : Nat → Prop), Behind w0 Fz0 ι' Fz' ⟨strikeF d st.fr, ks ++ strikeH d st.H, st.df⟩ a w' ∧ RV ι' Fz' w' v v' ∧ (∀ n, n ≠ d → ι' n = ι n) := by
  unfold appZ at h
  obtain ⟨el, hu, h⟩ := elemK_of h
  split at h
  · rename_i i κ hi hkd
    split at h
    · rename_i z hz
      cases hc : (Nat.beq i.size κ.size && Nat.ble 1 κ.size && zeroB κ z.cells.toList && Nat.ble 1 i.bytes && okNew st.df d && isIntT E.P t') with
      | false => rw [hc] at h; cases h
      | true =>
        rw [hc, cond_true] at h
        simp only [Bool.and_eq_true] at hc
        obtain ⟨⟨⟨⟨⟨hsz, h1⟩, hzb⟩, hby⟩, hdf⟩, htn⟩ := hc
        have hsz := Nat.eq_of_beq_eq_true hsz
        have h1 := Nat.le_of_ble_eq_true h1
        have hby := Nat.le_of_ble_eq_true hby
        unfold isIntT at htn
        split at htn <;> try (cases htn; done)
        rename_i kn hkn
        split at h
        · rename_i k n _
          cases hn : decide (1 ≤ n) with
          | false => rw [hn] at h; cases h
          | true =>
            rw [hn, cond_true] at h
            have hn := of_decide_eq_true hn
            obtain ⟨_, hlim, h⟩ := Option.bind_eq_some_iff.1 h
            have hlim := lim_of hlim
            simp only [RV] at hs
            rw [RV_int] at hx
            subst hs hx
            obtain ⟨m, rfl⟩ := Int.eq_ofNat_of_zero_le (show (0 : Int) ≤ n from Int.le_trans (show (0 : Int) ≤ 1 from Int.zero_le_ofNat 1) hn)
            have hmn : ((m : Nat) : Int).toNat = m := Int.toNat_natCast m
            rw [hmn] at h hlim
            have hm0 : 0 < m := by
              have : (1 : Int) ≤ (m : Int) := hn
              omega
            have hmm : m ≤ maxLen := by
              have h2 : m * 1 ≤ m * i.bytes := Nat.mul_le_mul_left m hby
              have h3 : m ≤ 140737488355328 := by rw [Nat.mul_one] at h2; exact Nat.le_trans h2 hlim
              simp only [maxLen]; omega
            have hzr := zeroB_of (Fz := Fz) (w := w) κ _ hzb
            have hzl := RP_len κ _ _ hzr
            have hzs : z.cells.size = κ.size := by simpa using hzl
            have hrow : Row Fz w κ (List.replicate m κ.zero) (Builtin.zeroCells z.cells m).toList := by
              intro j x hx
              have hj : j < m := by
                have := List.getElem?_eq_some_iff.1 hx
                obtain ⟨hlt, _⟩ := this
                simpa using hlt
              have hx' : x = κ.zero := by
                rw [List.getElem?_replicate, if_pos hj] at hx
                simpa using hx.symm
              subst hx'
              refine ⟨_, hzr, hzl, fun q u hq => ?_⟩
              have hql : q < κ.size := by
                have := (List.getElem?_eq_some_iff.1 hq).1
                omega
              have hidx : j * κ.size + q < m * z.cells.size := by
                rw [hzs]
                have h2 : (j + 1) * κ.size ≤ m * κ.size := Nat.mul_le_mul_right _ (by omega)
                rw [Nat.add_mul, Nat.one_mul] at h2
                omega
              rw [Array.getElem?_toList]
              unfold Builtin.zeroCells
              rw [Array.getElem?_map, Array.getElem?_range, if_pos hidx]
              have hmod : (j * κ.size + q) % z.cells.size = q := by
                rw [hzs, Nat.add_comm, Nat.add_mul_mod_self_right, Nat.mod_eq_of_lt hql]
              simp only [Option.map_some, hmod]
              rw [Array.getElem?_toList] at hq
              rw [getElem!_pos z.cells q (by omega)]
              rw [← hq, Array.getElem?_eq_getElem (by omega)]
            have hr := Lib.run_append_nil_zeros (P := E.P) w t t' ty el i z k kn hu hkn hi hz m hm0 (by omega) (by simp only [maxLen] at hmm; omega) (by omega)
            have hge := grownCap_ge w m 0 el
            obtain ⟨p, q⟩ := b.fresh (el := el) (κ := κ) (xs := List.replicate m κ.zero) (vs := Builtin.zeroCells z.cells m ++ Builtin.zeroCells z.cells (grownCap w m 0 el - m)) (cap := grownCap w m 0 el) hdf
              (by simpa using hrow.more _) (by simpa using hge) (grownCap_le_maxLen w _ _ _ hmm) (by
                rw [Array.size_append, size_zeroCells, size_zeroCells, hzs, ← Nat.add_mul]; congr 1; omega)
            rw [List.length_replicate] at p q
            exact ⟨_, _, h, hdf, by simp, _, _, hr, _, _, p, q, fun n hn => upd_ne _ _ _ hn⟩
        · cases h
    · cases h
  · cases h
end
end Go.Av
