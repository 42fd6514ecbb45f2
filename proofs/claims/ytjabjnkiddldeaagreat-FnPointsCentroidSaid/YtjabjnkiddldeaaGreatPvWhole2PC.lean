/- Products and shifts of whole numbers of any size,as the laws reckon them. -/
import Derived.Test.YtjabjnkiddldeaaGreatPvWholePC
set_option linter.unusedVariables false
set_option linter.unusedSectionVars false
set_option linter.unusedSimpArgs false
namespace Go.Proofs.YtjabjnkiddldeaaGreat.PvWhole2PC
open Go.Av Go
open Go.Proofs.YtjabjnkiddldeaaGreat.PC
open Go.Proofs.YtjabjnkiddldeaaGreat.PvWholePC
/-- A number as the laws hold it. -/
abbrev WH:=Bool×(List Int×Unit)
/-- What a number as the laws hold it stands for. -/
def Wv (w:WH) (z:Int):Prop:=Lim w.2.1 ∧ Nrm w.2.1 ∧ (w.2.1 = []→w.1 = false) ∧ z = bif w.1 then - lv w.2.1 else lv w.2.1
theorem Wv.abs {w:WH} {z:Int} (h:Wv w z):lv w.2.1 = (z.natAbs:Int):=by
  obtain ⟨h1,_,_,h4⟩:=h
  have:=lv_nonneg h1
  subst h4
  cases w.1 <;> simp <;> omega
theorem Wv.len {w:WH} {z:Int} (h:Wv w z) {k:Nat} (hz:z.natAbs < 2 ^ k):w.2.1.length ≤ k:=by
  refine len_le h.1 h.2.1 ?_
  rw [h.abs,Bp_two]
  have:2 ^ k ≤ 2 ^ (32 * k):=Nat.pow_le_pow_right (by decide) (by omega)
  omega
theorem Wv.nil {w:WH} {z:Int} (h:Wv w z):w.2.1 = [] ↔ z = 0:=by
  constructor
  · intro e
    have:=h.abs
    rw [e] at this
    simp only [lv] at this
    omega
  · intro e
    have:=h.abs
    subst e
    rcases Classical.em (w.2.1 = []) with h1 | h1
    · exact h1
    · have:=lv_pos h.1 h.2.1 h1
      omega
theorem Wv.sgn {w:WH} {z:Int} (h:Wv w z):w.1 = decide (z < 0):=by
  obtain ⟨h1,h2,h3,h4⟩:=h
  have:=lv_nonneg h1
  cases hb:w.1 with
  | false =>
    rw [hb] at h4
    simp only [cond_false] at h4
    exact (decide_eq_false (by omega)).symm
  | true =>
    rw [hb] at h4
    simp only [cond_true] at h4
    have:w.2.1 ≠ []:=fun e=>by rw [h3 e] at hb; cases hb
    have:=lv_pos h1 h2 this
    exact (decide_eq_true (by omega)).symm
theorem Wv.mk' {l:List Int} {b:Bool} {z:Int} (h1:Lim l) (h2:Nrm l) (h3:lv l = (z.natAbs:Int)) (h4:z ≠ 0→b = decide (z < 0)) (h5:z = 0→b = false):Wv (b,l,()) z:=by
  refine ⟨h1,h2,fun e=>?_,?_⟩
  · apply h5
    have e:l = []:=e
    rw [e] at h3
    simp only [lv] at h3
    omega
  · show z = bif b then - lv l else lv l
    rw [h3]
    by_cases hz:z = 0
    · rw [h5 hz]; simp; omega
    · rw [h4 hz]
      by_cases hn:z < 0
      · rw [decide_eq_true hn]; simp; omega
      · rw [decide_eq_false hn]; simp; omega
section
variable {N:Nat} (hN:0 < N) (hNl:9223372036854775808 ≤ N)
include hN hNl
theorem mul_row (a b:WH) (r0:Int→List Int→Option WH) (i:Nat) (x:Int) (hx:0 ≤ x ∧ x < 4294967296) (hb:Lim b.2.1) (hla:i < a.2.1.length) (hlen:a.2.1.length + b.2.1.length ≤ 4294967296)
    (out:List Int) (ho:out.length = a.2.1.length + b.2.1.length) (hlo:Lim out) (A:Int) (hA:lv out = A * lv b.2.1) (hAlt:A < Bp i) (hA0:0 ≤ A) :
    ∃ out',spec_Whole_Mul_l1 N r0 a b N (i:Int) x 0 0 out = r0 (IntKind.i64.wrap ((i:Int) + 1)) out' ∧ out'.length = a.2.1.length + b.2.1.length ∧ Lim out' ∧ lv out' = (A + Bp i * x) * lv b.2.1:=by
  have hbl:=lv_lt hb
  have hb0:=lv_nonneg hb
  have hmz:lv out < Bp (i + b.2.1.length):=by
    rw [hA,Bp_add]
    rcases Int.lt_or_le 0 A with h | h
    · exact Int.lt_of_le_of_lt (Int.mul_le_mul_of_nonneg_right (Int.le_of_lt hAlt) hb0) (Int.mul_lt_mul_of_pos_left hbl (Bp_pos i))
    · have:A = 0:=by omega
      subst this
      have h1:=Bp_pos i
      have h2:=Bp_pos b.2.1.length
      have:=Int.mul_pos h1 h2
      omega
  have hz:out[i + b.2.1.length]? = some 0:=by
    rw [List.getElem?_eq_getElem (by omega),limb_zero hlo (by omega) hmz]
  rcases stateLoop0 (xs:=b.2.1) (L:=fun n k (st:Int×List Int)=>spec_Whole_Mul_l1 N r0 a b n (i:Int) x st.1 k st.2) (e:=fun _=>False)
    (fin:=fun st=>(chk (IntKind.i64.wrap ((i:Int) + (b.2.1.length:Int))) st.2.length).bind fun v31=>((r0 (IntKind.i64.wrap ((i:Int) + 1)) (st.2.set v31 (IntKind.u32.wrap st.1)))))
    (fun k st=>st.2.length = a.2.1.length + b.2.1.length ∧ Lim st.2 ∧ (0 ≤ st.1 ∧ st.1 < 4294967296) ∧ st.2[i + b.2.1.length]? = some 0 ∧ lv st.2 + st.1 * Bp (i + k) = A * lv b.2.1 + Bp i * x * lv (b.2.1.take k))
    (fun n st hp=>by
      simp only [spec_Whole_Mul_l1,spec_Whole_Mul_g1,Bool.cond_decide]
      rw [if_neg (by omega)])
    (fun n k st hk hp=>by
      right
      obtain ⟨c,o⟩:=st
      obtain ⟨p1,p2,p3,p4,p5⟩:=hp
      dsimp only at p1 p2 p3 p4 p5
      have hy:=hb _ (List.getElem_mem hk)
      have hik:i + k < o.length:=by omega
      have hd:=p2 _ (List.getElem_mem hik)
      simp only [spec_Whole_Mul_l1,spec_Whole_Mul_g1,Bool.cond_decide]
      rw [if_pos (by omega),nth_get hk,succ_in hk (by omega),wrap_in (n:=(i:Int) + (k:Int)) (by omega),show (i:Int) + (k:Int) = ((i + k:Nat):Int) by omega,chk_nat hik]
      simp only [Option.bind_some]
      rw [List.getElem?_eq_getElem hik]
      simp only [Option.bind_some]
      have hxy:0 ≤ x * b.2.1[k] ∧ x * b.2.1[k] ≤ 18446744065119617025:=by
        refine ⟨Int.mul_nonneg hx.1 hy.1,?_⟩
        have:=Int.mul_le_mul (show x ≤ 4294967295 by omega) (show b.2.1[k] ≤ 4294967295 by omega) hy.1 (by decide)
        omega
      rw [w64_in (n:=x) (by omega),w64_in (n:=b.2.1[k]) (by omega),w64_in (n:=x * b.2.1[k]) (by omega),w64_in (n:=o[i + k]) (by omega),w64_in (n:=x * b.2.1[k] + o[i + k]) (by omega),w64_in (n:=x * b.2.1[k] + o[i + k] + c) (by omega),shr32,w32_eq]
      refine ⟨((x * b.2.1[k] + o[i + k] + c) / 4294967296,o.set (i + k) ((x * b.2.1[k] + o[i + k] + c) % 4294967296)),rfl,by rw [List.length_set]; exact p1,p2.set _ (by omega),by omega,?_,?_⟩
      · show (o.set (i + k) _)[i + b.2.1.length]? = some 0
        rw [List.getElem?_set_ne (by omega)]; exact p4
      · dsimp only
        rw [lv_set hik,show i + (k + 1) = i + k + 1 by omega,Bp_succ,lv_take hk]
        have e:=Int.mul_ediv_add_emod (x * b.2.1[k] + o[i + k] + c) 4294967296
        have e3:Bp (i + k) = Bp i * Bp k:=Bp_add i k
        generalize (x * b.2.1[k] + o[i + k] + c) / 4294967296 = q at *
        generalize (x * b.2.1[k] + o[i + k] + c) % 4294967296 = r at *
        generalize lv (b.2.1.take k) = T at *
        generalize b.2.1[k] = y at *
        generalize o[i + k] = d at *
        generalize lv b.2.1 = Lb at *
        generalize lv o = Lo at *
        rw [e3] at p5 ⊢
        generalize Bp i = P at *
        generalize Bp k = Q at *
        have e2:P * Q * (4294967296 * q + r) = P * Q * (x * y + d + c):=by rw [e]
        grind) N (0,out) (by omega) ⟨ho,hlo,⟨Int.le_refl 0,show (0:Int) < 4294967296 by decide⟩,hz,by simp [hA,lv]⟩ with h | ⟨st,h,hp⟩
  · exact h.elim
  · have h':spec_Whole_Mul_l1 N r0 a b N (i:Int) x 0 0 out = _:=h
    obtain ⟨c,o⟩:=st
    obtain ⟨p1,p2,p3,p4,p5⟩:=hp
    dsimp only at p1 p2 p3 p4 p5
    rw [h']
    have hib:i + b.2.1.length < o.length:=by omega
    dsimp only
    rw [wrap_in (n:=(i:Int) + (b.2.1.length:Int)) (by omega),show (i:Int) + (b.2.1.length:Int) = ((i + b.2.1.length:Nat):Int) by omega,chk_nat hib,w32_eq]
    refine ⟨_,rfl,by rw [List.length_set]; exact p1,p2.set _ (by omega),?_⟩
    rw [List.take_length] at p5
    rw [List.getElem?_eq_getElem hib] at p4
    simp only [Option.some.injEq] at p4
    rw [lv_set hib,p4,show c % 4294967296 = c by omega]
    grind
theorem mul_loop (a b:WH) (ha:Lim a.2.1) (hb:Lim b.2.1) (hlen:a.2.1.length + b.2.1.length ≤ 4294967296) :
    ∃ out,spec_Whole_Mul_l0 N N a b 0 (List.replicate (a.2.1.length + b.2.1.length) 0) = ((spec_trim N out).bind fun v32=>(bif (decide (((v32.length:Int):Int) > 0)) then (some ((!(a.1 == b.1)),v32,())) else (some (false,v32,())))) ∧
      out.length = a.2.1.length + b.2.1.length ∧ Lim out ∧ lv out = lv a.2.1 * lv b.2.1:=by
  rcases stateLoop0 (xs:=a.2.1) (L:=fun n i out=>spec_Whole_Mul_l0 N n a b i out) (e:=fun _=>False)
    (fin:=fun out=>(spec_trim N out).bind fun v32=>(bif (decide (((v32.length:Int):Int) > 0)) then (some ((!(a.1 == b.1)),v32,())) else (some (false,v32,()))))
    (fun i out=>out.length = a.2.1.length + b.2.1.length ∧ Lim out ∧ lv out = lv (a.2.1.take i) * lv b.2.1)
    (fun n out hp=>by
      simp only [spec_Whole_Mul_l0,spec_Whole_Mul_g0,Bool.cond_decide]
      rw [if_neg (by omega)])
    (fun n i out hi hp=>by
      right
      obtain ⟨p1,p2,p3⟩:=hp
      have h1:=lv_lt (ha.take i)
      rw [List.length_take,Nat.min_eq_left (by omega)] at h1
      simp only [spec_Whole_Mul_l0,spec_Whole_Mul_g0,Bool.cond_decide]
      rw [if_pos (by omega),nth_get hi]
      simp only [Option.bind_some]
      obtain ⟨o,h2,h3,h4,h5⟩:=mul_row hN hNl a b (spec_Whole_Mul_l0 N n a b) i a.2.1[i] (ha _ (List.getElem_mem hi)) hb hi hlen out p1 p2 _ p3 h1 (lv_nonneg (ha.take i))
      exact ⟨o,by rw [h2,succ_in hi (by omega)],h3,h4,by rw [h5,lv_take hi]⟩) N (List.replicate (a.2.1.length + b.2.1.length) 0) (by omega) ⟨by simp,Lim.rep _,by simp [lv_rep,lv]⟩ with h | ⟨out,h,hp⟩
  · exact h.elim
  · rw [List.take_length] at hp
    exact ⟨out,h,hp⟩
theorem mul_spec {a b:WH} {x y:Int} (ha:Wv a x) (hb:Wv b y) (hla:a.2.1.length ≤ 1073741824) (hlb:b.2.1.length ≤ 1073741824):∃ c,spec_Whole_Mul N a b = some c ∧ Wv c (x * y):=by
  unfold spec_Whole_Mul spec_Whole_Mul_g
  rw [wrap_in (by omega),mkn_ok (by omega) (by omega) (by omega) (by omega)]
  simp only [Option.bind_some]
  rw [show ((a.2.1.length:Int) + (b.2.1.length:Int)).toNat = a.2.1.length + b.2.1.length by omega]
  obtain ⟨out,h1,h2,h3,h4⟩:=mul_loop hN hNl a b ha.1 hb.1 (by omega)
  rw [h1]
  obtain ⟨t,t1,t2,t3,t4,t5⟩:=trim_spec hN hNl out (by omega)
  rw [t1]
  have hv:lv t = ((x * y).natAbs:Int):=by rw [t2,h4,ha.abs,hb.abs,Int.natAbs_mul,Int.natCast_mul]
  simp only [Option.bind_some]
  by_cases ht:t = []
  · subst ht
    refine ⟨_,rfl,?_⟩
    have hz:x * y = 0:=by
      simp only [lv] at hv
      omega
    exact Wv.mk' (t3 h3) t4 hv (fun h=>absurd hz h) (fun _=>rfl)
  · have hp:=lv_pos (t3 h3) t4 ht
    have hl:t.length ≠ 0:=fun h=>ht (List.eq_nil_of_length_eq_zero h)
    rw [decide_eq_true (by omega),cond_true]
    refine ⟨_,rfl,Wv.mk' (t3 h3) t4 hv (fun h=>?_) (fun h=>by rw [h] at hv; simp at hv; omega)⟩
    rw [ha.sgn,hb.sgn]
    have hx:x ≠ 0:=fun e=>h (by rw [e,Int.zero_mul])
    have hy:y ≠ 0:=fun e=>h (by rw [e,Int.mul_zero])
    rcases Int.lt_or_le x 0 with h1 | h1
    · rcases Int.lt_or_le y 0 with h2 | h2
      · have:=Int.mul_pos_of_neg_of_neg h1 h2
        rw [decide_eq_true h1,decide_eq_true h2,decide_eq_false (by omega)]; rfl
      · have:=Int.mul_neg_of_neg_of_pos h1 (show 0 < y by omega)
        rw [decide_eq_true h1,decide_eq_false (by omega),decide_eq_true (by omega)]; rfl
    · rcases Int.lt_or_le y 0 with h2 | h2
      · have:=Int.mul_neg_of_pos_of_neg (show 0 < x by omega) h2
        rw [decide_eq_false (by omega),decide_eq_true h2,decide_eq_true (by omega)]; rfl
      · have:=Int.mul_pos (show 0 < x by omega) (show 0 < y by omega)
        rw [decide_eq_false (by omega),decide_eq_false (by omega),decide_eq_false (by omega)]; rfl
theorem up_spec {a:WH} {x:Int} (ha:Wv a x) (sh:Nat) (hsh:sh ≤ 1073741824) (hla:a.2.1.length ≤ 1073741824):∃ c,spec_Whole_Up N a (sh:Int) = some c ∧ Wv c (x * ((2 ^ sh:Nat):Int)):=by
  unfold spec_Whole_Up spec_Whole_Up_g
  by_cases hz:a.2.1 = []
  · rw [show ((a.2.1.length:Int) == 0) = true by rw [hz]; rfl,cond_true]
    refine ⟨a,rfl,?_⟩
    rw [ha.nil.1 hz,Int.zero_mul]
    have e:=ha.nil.1 hz
    subst e
    exact ha
  · have hl:a.2.1.length ≠ 0:=fun h=>hz (List.eq_nil_of_length_eq_zero h)
    have hb:((a.2.1.length:Int) == 0) = false:=by simp; exact hz
    rw [hb,cond_false]
    have ed:Int.tdiv (sh:Int) 32 = ((sh / 32:Nat):Int):=by rw [Int.tdiv_eq_ediv_of_nonneg (by omega)]; omega
    have em:Int.tmod (sh:Int) 32 = ((sh % 32:Nat):Int):=by rw [Int.tmod_eq_emod_of_nonneg (by omega)]; omega
    rw [ed,wrap_in (n:=((sh / 32:Nat):Int)) (by omega),wrap_in (n:=((sh / 32:Nat):Int) + (a.2.1.length:Int)) (by omega),wrap_in (n:=((sh / 32:Nat):Int) + (a.2.1.length:Int) + 1) (by omega),mkn_ok (by omega) (by omega) (by omega) (by omega)]
    simp only [Option.bind_some,Int.toNat_natCast]
    have hs:sh % 32 < 32:=by omega
    have hpw:(2 ^ (sh % 32):Nat) ≤ 2 ^ 31:=Nat.pow_le_pow_right (by decide) (by omega)
    have hpp:0 < (2 ^ (sh % 32):Nat):=Nat.pow_pos (by decide)
    have h31:(2 ^ 31:Nat) = 2147483648:=by decide
    have hdvd:((2 ^ (sh % 32):Nat):Int) ∣ 4294967296:=by
      have h1:(2 ^ (sh % 32):Nat) ∣ 2 ^ 32:=Nat.pow_dvd_pow 2 (by omega)
      have h2:((2 ^ (sh % 32):Nat):Int) ∣ ((2 ^ 32:Nat):Int):=by exact_mod_cast h1
      exact h2
    have e64:min (((sh % 32:Nat):Int)).toNat (IntKind.bits .u64) = sh % 32:=by rw [Int.toNat_natCast]; exact Nat.min_eq_left (by show sh % 32 ≤ 64; omega)
    have ep:(2:Int) ^ (sh % 32) = ((2 ^ (sh % 32):Nat):Int):=by rw [Int.natCast_pow]; rfl
    generalize hD:((2 ^ (sh % 32):Nat):Int) = D at *
    have hD1:1 ≤ D ∧ D ≤ 2147483648:=by omega
    rcases stateLoop0 (xs:=a.2.1) (L:=fun n i (st:Int×List Int)=>spec_Whole_Up_l0 N n (sh:Int) a st.1 i st.2) (e:=fun _=>False)
      (fin:=fun st=>(lim ((st.2.length + ([st.1]:List Int).length) * 4)).bind fun _=>(spec_trim_b N (st.2 ++ ([st.1]:List Int))).bind fun v9=>(some (a.1,v9.1,())))
      (fun i st=>st.2.length = sh / 32 + i ∧ Lim st.2 ∧ (0 ≤ st.1 ∧ st.1 < D) ∧ lv st.2 + st.1 * Bp (sh / 32 + i) = D * Bp (sh / 32) * lv (a.2.1.take i))
      (fun n st hp=>by
        simp only [spec_Whole_Up_l0,spec_Whole_Up_g0,Bool.cond_decide]
        rw [if_neg (by omega)])
      (fun n i st hi hp=>by
        right
        obtain ⟨c,out⟩:=st
        obtain ⟨p1,p2,p3,p4⟩:=hp
        dsimp only at p1 p2 p3 p4
        have hx:=ha.1 _ (List.getElem_mem hi)
        simp only [spec_Whole_Up_l0,spec_Whole_Up_g0,Bool.cond_decide]
        rw [if_pos (by omega),nth_get hi,succ_in hi (by omega),em]
        simp only [Option.bind_some]
        rw [if_neg (by omega),e64,ep]
        have hxD:0 ≤ a.2.1[i] * D ∧ a.2.1[i] * D < 4294967296 * D:=⟨Int.mul_nonneg hx.1 (by omega),Int.mul_lt_mul_of_pos_right hx.2 (by omega)⟩
        rw [w64_in (n:=a.2.1[i]) (by omega),w64_in (n:=a.2.1[i] * D) (by omega),shr32,w32_eq,w32_eq]
        have hq:a.2.1[i] * D / 4294967296 < D:=Int.ediv_lt_of_lt_mul (by decide) (by omega)
        have hq0:0 ≤ a.2.1[i] * D / 4294967296:=by omega
        have hdm:D ∣ (a.2.1[i] * D) % 4294967296:=by
          have e:=Int.mul_ediv_add_emod (a.2.1[i] * D) 4294967296
          have h1:D ∣ a.2.1[i] * D:=⟨a.2.1[i],Int.mul_comm _ _⟩
          have h2:D ∣ 4294967296 * (a.2.1[i] * D / 4294967296):=Int.dvd_trans hdvd ⟨_,rfl⟩
          rw [← e] at h1
          exact (Int.dvd_add_right h2).1 h1
        have hor:=or_add (s:=sh % 32) (a:=(a.2.1[i] * D) % 4294967296) (c:=c) (by omega) (by omega) (by rw [hD]; exact hdm) (by rw [hD]; exact p3)
        rw [hor.1,lim_le (by simp; omega),show a.2.1[i] * D / 4294967296 % 4294967296 = a.2.1[i] * D / 4294967296 by omega]
        refine ⟨(a.2.1[i] * D / 4294967296,out ++ [(a.2.1[i] * D) % 4294967296 + c]),rfl,by rw [List.length_append,p1]; rfl,p2.app (Lim.one (by omega)),⟨hq0,hq⟩,?_⟩
        dsimp only
        rw [lv_snoc,p1,show sh / 32 + (i + 1) = sh / 32 + i + 1 by omega,Bp_succ,lv_take hi]
        have e:=Int.mul_ediv_add_emod (a.2.1[i] * D) 4294967296
        have e3:Bp (sh / 32 + i) = Bp (sh / 32) * Bp i:=Bp_add _ _
        rw [e3] at p4 ⊢
        generalize a.2.1[i] * D / 4294967296 = q at *
        generalize (a.2.1[i] * D) % 4294967296 = r at *
        generalize a.2.1[i] = x at *
        generalize lv (a.2.1.take i) = T at *
        generalize Bp (sh / 32) = P at *
        generalize Bp i = Q at *
        have e2:P * Q * (4294967296 * q + r) = P * Q * (x * D):=by rw [e]
        grind) N (0,List.replicate (sh / 32) 0) (by omega) ⟨by simp,Lim.rep _,⟨Int.le_refl 0,by dsimp only; omega⟩,by simp [lv_rep,lv]⟩ with h | ⟨st,h,hp⟩
    · exact h.elim
    · have h':spec_Whole_Up_l0 N N (sh:Int) a 0 0 (List.replicate (sh / 32) 0) = _:=h
      obtain ⟨p1,p2,p3,p4⟩:=hp
      rw [h',lim_le (by simp; omega)]
      obtain ⟨t,t1,t2,t3,t4,t5⟩:=trimb_spec hN hNl (st.2 ++ [st.1]) (by simp; omega)
      refine ⟨(a.1,t,()),by simp only [Option.bind_some,t1],?_⟩
      have hsv:((2 ^ sh:Nat):Int) = D * Bp (sh / 32):=by
        rw [Bp_two,← hD,← Int.natCast_mul,← Nat.pow_add,show sh % 32 + 32 * (sh / 32) = sh by omega]
      rw [List.take_length] at p4
      have hv:lv t = D * Bp (sh / 32) * lv a.2.1:=by
        rw [t2,lv_snoc,p1,← p4,Int.mul_comm]
      have hp2:(0:Int) < D * Bp (sh / 32):=Int.mul_pos (by omega) (Bp_pos _)
      refine Wv.mk' (t3 (p2.app (Lim.one (by omega)))) t4 ?_ (fun h=>?_) (fun h=>?_)
      · rw [hv,hsv,ha.abs,Int.natAbs_mul,Int.natCast_mul,Int.mul_comm]
        congr 1
        omega
      · rw [ha.sgn]
        rw [hsv]
        by_cases hn:x < 0
        · have:=Int.mul_neg_of_neg_of_pos hn hp2
          rw [decide_eq_true hn,decide_eq_true (by omega)]
        · have:=Int.mul_nonneg (show 0 ≤ x by omega) (Int.le_of_lt hp2)
          rw [decide_eq_false hn,decide_eq_false (by omega)]
      · rw [hsv] at h
        have hx0:x = 0:=by
          rcases Int.mul_eq_zero.1 h with h | h
          · exact h
          · omega
        rw [ha.sgn,hx0]; rfl
theorem wsign_spec {a:WH} {x:Int} (ha:Wv a x):spec_Whole_Sign N a = some (cmpv x 0):=by
  unfold spec_Whole_Sign spec_Whole_Sign_g cmpv
  by_cases hz:x = 0
  · have:=ha.nil.2 hz
    rw [show ((a.2.1.length:Int) == 0) = true by rw [this]; rfl,cond_true,if_neg (by omega),if_pos hz]
  · have h1:a.2.1 ≠ []:=fun e=>hz (ha.nil.1 e)
    have hl:a.2.1.length ≠ 0:=fun h=>h1 (List.eq_nil_of_length_eq_zero h)
    have hb:((a.2.1.length:Int) == 0) = false:=by simp; exact h1
    rw [hb,cond_false,ha.sgn]
    by_cases hn:x < 0
    · rw [decide_eq_true hn,cond_true,if_pos hn]
    · rw [decide_eq_false hn,cond_false,if_neg hn,if_neg hz]
theorem wminus_spec {a:WH} {x:Int} (ha:Wv a x):∃ c,spec_Whole_Minus N a = some c ∧ Wv c (-x):=by
  unfold spec_Whole_Minus spec_Whole_Minus_g
  have h0:=ha.abs
  by_cases hz:x = 0
  · have e:=ha.nil.2 hz
    have hs:=ha.sgn
    subst hz
    rw [hs]
    refine ⟨_,rfl,?_⟩
    refine Wv.mk' ha.1 ha.2.1 (by omega) (fun h=>absurd rfl h) (fun _=>?_)
    rw [e]; rfl
  · have h1:a.2.1 ≠ []:=fun e=>hz (ha.nil.1 e)
    have hl:a.2.1.length ≠ 0:=fun h=>h1 (List.eq_nil_of_length_eq_zero h)
    rw [ha.sgn]
    by_cases hn:x < 0
    · rw [decide_eq_true hn]
      exact ⟨_,rfl,Wv.mk' ha.1 ha.2.1 (by omega) (fun _=>(decide_eq_false (by omega)).symm) (fun h=>by omega)⟩
    · rw [decide_eq_false hn]
      refine ⟨_,rfl,Wv.mk' ha.1 ha.2.1 (by omega) (fun _=>?_) (fun h=>by omega)⟩
      rw [decide_eq_true (by omega),decide_eq_true (by omega)]
theorem wadd_spec {a b:WH} {x y:Int} (ha:Wv a x) (hb:Wv b y) (hla:a.2.1.length ≤ 4294967296) (hlb:b.2.1.length ≤ 4294967296):∃ c,spec_Whole_Add N a b = some c ∧ Wv c (x + y):=by
  unfold spec_Whole_Add spec_Whole_Add_g
  have sa:=ha.sgn
  have sb:=hb.sgn
  have va:=ha.abs
  have vb:=hb.abs
  by_cases hs:a.1 = b.1
  · rw [hs,beq_self_eq_true,cond_true]
    obtain ⟨t,h1,h2,h3,h4⟩:=add_spec hN hNl ha.1 hb.1 hla hlb
    rw [h1]
    rw [sa,sb] at hs
    have hs':x < 0 ↔ y < 0:=decide_eq_decide.1 hs
    refine ⟨_,rfl,Wv.mk' h2 h3 (by omega) (fun h=>?_) (fun h=>?_)⟩
    · rw [sb]; exact decide_eq_decide.2 (by omega)
    · rw [sb]; exact decide_eq_false (by omega)
  · have hb':(a.1 == b.1) = false:=by simpa using hs
    rw [hb',cond_false,cmp_spec hN hNl ha.1 hb.1 ha.2.1 hb.2.1 (by omega)]
    simp only [Option.bind_some]
    have hs':¬(x < 0 ↔ y < 0):=fun h=>hs (by rw [sa,sb]; exact decide_eq_decide.2 h)
    unfold cmpv
    by_cases h1:lv a.2.1 < lv b.2.1
    · rw [if_pos h1]
      have hlen:a.2.1.length ≤ b.2.1.length:=by
        rcases Nat.lt_or_ge b.2.1.length a.2.1.length with h | h
        · have:=lv_lt_of_len hb.1 ha.1 ha.2.1 h
          omega
        · exact h
      obtain ⟨t,t1,t2,t3,t4⟩:=sub_spec hN hNl hb.1 ha.1 hlen (by omega) hlb
      rw [show ((-1:Int) == 0) = false from rfl,show ((-1:Int) == 1) = false from rfl,cond_false,cond_false,t1]
      refine ⟨_,rfl,Wv.mk' t2 t3 (by omega) (fun h=>?_) (fun h=>by omega)⟩
      rw [sb]; exact decide_eq_decide.2 (by omega)
    · rw [if_neg h1]
      by_cases h2:lv a.2.1 = lv b.2.1
      · rw [if_pos h2]
        exact ⟨_,rfl,Wv.mk' Lim.nil Nrm.nil (by simp only [lv]; omega) (fun h=>by omega) (fun _=>rfl)⟩
      · rw [if_neg h2]
        have hlen:b.2.1.length ≤ a.2.1.length:=by
          rcases Nat.lt_or_ge a.2.1.length b.2.1.length with h | h
          · have:=lv_lt_of_len ha.1 hb.1 hb.2.1 h
            omega
          · exact h
        obtain ⟨t,t1,t2,t3,t4⟩:=sub_spec hN hNl ha.1 hb.1 hlen (by omega) hla
        rw [show ((1:Int) == 0) = false from rfl,show ((1:Int) == 1) = true from rfl,cond_false,cond_true,t1]
        refine ⟨_,rfl,Wv.mk' t2 t3 (by omega) (fun h=>?_) (fun h=>by omega)⟩
        rw [sa]; exact decide_eq_decide.2 (by omega)
theorem wholeOf_spec (z:Int) (hz:-9223372036854775808 ≤ z ∧ z ≤ 9223372036854775807):∃ c,spec_WholeOf N z = some c ∧ Wv c z:=by
  unfold spec_WholeOf spec_WholeOf_g
  have key:∀ u:Int,u = (z.natAbs:Int)→∃ c,spec_WholeOf_j0 N z u = some c ∧ Wv c z:=by
    intro u hu
    simp only [spec_WholeOf_j0,spec_WholeOf_g0,gate_pos hN]
    rw [shr32,w32_eq,w32_eq]
    obtain ⟨t,t1,t2,t3,t4,t5⟩:=trim_spec hN hNl [u % 4294967296,u / 4294967296 % 4294967296] (by simp)
    rw [t1]
    refine ⟨_,rfl,Wv.mk' (t3 (fun x hx=>?_)) t4 ?_ (fun _=>rfl) (fun h=>by rw [h]; rfl)⟩
    · simp only [List.mem_cons,List.mem_nil_iff,or_false] at hx
      omega
    · rw [t2]
      simp only [lv]
      omega
  simp only [Bool.cond_decide]
  by_cases h:z < 0
  · rw [if_pos h]
    apply key
    rw [w64_eq,w64_eq]
    omega
  · rw [if_neg h]
    apply key
    rw [w64_eq]
    omega
end
end Go.Proofs.YtjabjnkiddldeaaGreat.PvWhole2PC
