/- The plain law of FnPointsCentroid: sums of exact numbers,nearness to a fraction,the places of a row,the law. -/
import Derived.Test.YtjabjnkiddldeaaGreatPC
import Derived.Test.YtjabjnkiddldeaaGreatPvPlaneToPC
import Derived.Test.YtjabjnkiddldeaaGreatPvDyadicPC
import Derived.Test.YtjabjnkiddldeaaGreatPvGeoPC
import Derived.Test.YtjabjnkiddldeaaGreatFl10
import Derived.Test.YtjabjnkiddldeaaGreatFl13
set_option linter.unusedVariables false
set_option linter.unusedSectionVars false
set_option linter.unusedSimpArgs false
namespace Go.Proofs.YtjabjnkiddldeaaGreat.PvPCa
open Go.Av Go
open Go.Proofs.YtjabjnkiddldeaaGreat.PC
open Go.Proofs.YtjabjnkiddldeaaGreat.PvWholeToPC
open Go.Proofs.YtjabjnkiddldeaaGreat.PvPlaneToPC
open Go.Proofs.YtjabjnkiddldeaaGreat.PvDyadicPC
open Go.Proofs.YtjabjnkiddldeaaGreat.PvWholePC
open Go.Proofs.YtjabjnkiddldeaaGreat.PvWhole2PC
theorem b6:Wh 4634204016564240384 64:=wh_lit _ _ (by decide +kernel) (by decide +kernel) (by decide +kernel) (by decide)
abbrev Pt:=Nat×(Nat×Unit)
abbrev PT:=DY×(DY×Unit)
/-- The places of a row. -/
def pts (s:Nat) (flat:List Nat) (k:Nat):List Pt:=(List.range k).map fun t=>(flat.getD (t * s) 0,flat.getD (t * s + 1) 0,())
theorem getD_get {flat:List Nat} {i:Nat} (h:i < flat.length):flat.getD i 0 = flat[i]:=by rw [List.getD_eq_getElem?_getD,List.getElem?_eq_getElem h]; rfl
theorem pts_len (s:Nat) (flat:List Nat) (k:Nat):(pts s flat k).length = k:=by simp [pts]
theorem pts_succ (s:Nat) (flat:List Nat) (k:Nat):pts s flat (k + 1) = pts s flat k ++ [(flat.getD (k * s) 0,flat.getD (k * s + 1) 0,())]:=by
  unfold pts; rw [List.range_succ,List.map_append]; rfl
section
variable {N:Nat} (hN:0 < N) (hNl:9223372036854775808 ≤ N)
include hN hNl
theorem strides {ly:Int} (h:1 ≤ ly ∧ ly ≤ 8):∃ s:Nat,2 ≤ s ∧ s ≤ 8 ∧ spec_Stride N ly = some (s:Int) ∧ gogeom_Layout_Stride N ly = some (s:Int):=by
  have:ly = 1 ∨ ly = 2 ∨ ly = 3 ∨ ly = 4 ∨ ly = 5 ∨ ly = 6 ∨ ly = 7 ∨ ly = 8:=by omega
  rcases this with rfl | rfl | rfl | rfl | rfl | rfl | rfl | rfl
  · exact ⟨2,by decide,by decide,rfl,rfl⟩
  · exact ⟨3,by decide,by decide,rfl,rfl⟩
  · exact ⟨3,by decide,by decide,rfl,rfl⟩
  · exact ⟨4,by decide,by decide,rfl,rfl⟩
  · exact ⟨5,by decide,by decide,rfl,rfl⟩
  · exact ⟨6,by decide,by decide,rfl,rfl⟩
  · exact ⟨7,by decide,by decide,rfl,rfl⟩
  · exact ⟨8,by decide,by decide,rfl,rfl⟩
theorem flat_loop {s K:Nat} (hs:2 ≤ s) {flat:List Nat} (hl:flat.length = K * s) (hK:K ≤ 1000000) (hs2:s ≤ 8) (m:Nat):∀ (c k n:Nat),k + c = K→c + 1 ≤ n →
    laws_flatTo_l0 N n flat m (s:Int) ((k * s:Nat):Int) (pts s flat k) = (laws_planeTo N m (pts s flat K)).bind fun b=>some (pts s flat K,b,())
  | 0,k,n,hk,hn=>by
    obtain ⟨n,rfl⟩:∃ m,n = m + 1:=⟨n - 1,by omega⟩
    have hk:k = K:=by omega
    subst hk
    simp only [laws_flatTo_l0,laws_flatTo_g0]
    have:decide (((k * s:Nat):Int) < (flat.length:Int)) = false:=by simp; omega
    rw [this,cond_false]
  | c + 1,k,n,hk,hn=>by
    obtain ⟨n,rfl⟩:∃ m,n = m + 1:=⟨n - 1,by omega⟩
    have ih:=flat_loop hs hl hK hs2 m c (k + 1) n (by omega) (by omega)
    have hks:(k + 1) * s ≤ K * s:=Nat.mul_le_mul_right s (by omega)
    have hks2:(k + 1) * s = k * s + s:=by rw [Nat.add_mul,Nat.one_mul]
    have hKs:K * s ≤ 1000000 * 8:=Nat.mul_le_mul hK hs2
    have h1:k * s < flat.length:=by omega
    have h2:k * s + 1 < flat.length:=by omega
    simp only [laws_flatTo_l0,laws_flatTo_g0]
    have:decide (((k * s:Nat):Int) < (flat.length:Int)) = true:=by simp; omega
    rw [this,cond_true,wrap_in (n:=((k * s:Nat):Int) + 1) (by omega),wrap_in (n:=((k * s:Nat):Int) + (s:Int)) (by omega)]
    rw [show ((k * s:Nat):Int) + 1 = ((k * s + 1:Nat):Int) by omega,show ((k * s:Nat):Int) + (s:Int) = (((k + 1) * s:Nat):Int) by rw [hks2]; omega]
    rw [nth_get h1,nth_get h2]
    simp only [Option.bind_some]
    rw [lim_le (by rw [pts_len]; simp; omega)]
    simp only [Option.bind_some]
    rw [← ih,pts_succ,getD_get h1,getD_get h2]
theorem flatTo_spec (ly:Int) (flat:List Nat) (hf:flat.length ≤ 9223372036854775807) :
    (∃ l,laws_flatTo N ly flat 4634204016564240384 100 = some (l,false,())) ∨
    ∃ s K:Nat,2 ≤ s ∧ s ≤ 8 ∧ flat.length = K * s ∧ K ≤ 100 ∧ spec_Stride N ly = some (s:Int) ∧ gogeom_Layout_Stride N ly = some (s:Int) ∧ laws_flatTo N ly flat 4634204016564240384 100 = some (pts s flat K,true,()) ∧ ∀ x ∈ pts s flat K,In 64 x.1 ∧ In 64 x.2.1:=by
  unfold laws_flatTo laws_flatTo_g
  cases h1:decide (ly < 1) with
  | true=>exact .inl ⟨_,rfl⟩
  | false =>
    cases h2:decide (ly > 8) with
    | true=>exact .inl ⟨_,rfl⟩
    | false =>
      simp only [decide_eq_false_iff_not] at h1 h2
      obtain ⟨s,hs,hs2,e1,e2⟩:=strides hN hNl (ly:=ly) ⟨by omega,by omega⟩
      simp only [cond_false,e1,Option.bind_some]
      rw [if_neg (by omega)]
      cases h3:(Int.tmod (flat.length:Int) (s:Int) != 0) with
      | true=>exact .inl ⟨_,rfl⟩
      | false =>
        simp only [cond_false]
        rw [wrap_in (n:=(s:Int) * 100) (by omega)]
        cases h4:decide ((flat.length:Int) > (s:Int) * 100) with
        | true=>exact .inl ⟨_,rfl⟩
        | false =>
          simp only [cond_false]
          simp only [decide_eq_false_iff_not] at h4
          have hmod:flat.length % s = 0:=by
            simp only [bne_eq_false_iff_eq] at h3
            rw [Int.tmod_eq_emod_of_nonneg (by omega)] at h3
            omega
          have hl:flat.length = (flat.length / s) * s:=by
            have:=Nat.div_add_mod flat.length s
            rw [hmod,Nat.mul_comm] at this
            omega
          generalize flat.length / s = K at hl
          have hK:K ≤ 100:=by
            refine Nat.le_of_not_lt fun h=>?_
            have:101 * s ≤ K * s:=Nat.mul_le_mul_right s h
            omega
          have hloop:=flat_loop hN hNl hs hl (by omega) hs2 4634204016564240384 K 0 N (by omega) (by omega)
          rw [show ((0 * s:Nat):Int) = 0 by simp,show pts s flat 0 = [] from rfl] at hloop
          rw [hloop]
          rcases planeTo b6 (by decide) (N:=N) (by omega) (pts s flat K) (by rw [pts_len]; omega) (by rw [pts_len]; omega) with h | ⟨h,hin⟩
          · rw [h]; exact .inl ⟨_,rfl⟩
          · rw [h]; exact .inr ⟨s,K,hs,hs2,hl,hK,rfl,e2,rfl,hin⟩
/-! ### sums of exact numbers -/
def pw (n:Nat):Nat:=2 ^ n
omit hN hNl in
theorem pw_le {a b:Nat} (h:a ≤ b):pw a ≤ pw b:=Nat.pow_le_pow_right (by decide) h
/-- An exact number at a fixed scale. -/
def Db (d:DY) (Z:Int):Prop:=∃ z:Int,Wv d.1 z ∧ (-2000 ≤ d.2.1 ∧ d.2.1 ≤ 2000) ∧ Z = z * ((2 ^ (d.2.1 + 2000).toNat:Nat):Int)
omit hN hNl in
theorem Db.val {d:DY} {Z:Int} (h:Db d Z):∃ z:Int,Wv d.1 z ∧ z.natAbs ≤ Z.natAbs ∧ (-2000 ≤ d.2.1 ∧ d.2.1 ≤ 2000) ∧ (Z:Rat) * P2 (-2000) = (z:Rat) * P2 d.2.1:=by
  obtain ⟨z,h1,h2,rfl⟩:=h
  refine ⟨z,h1,?_,h2,?_⟩
  · rw [Int.natAbs_mul,Int.natAbs_natCast]
    exact Nat.le_mul_of_pos_right _ (Nat.two_pow_pos _)
  · rw [Rat.intCast_mul,int2pow,Rat.mul_assoc,← P2_add]
    congr 2
    omega
omit hN hNl in
theorem Db.dn {d:DY} {Z:Int} (h:Db d Z) (hZ:Z.natAbs < pw (sk 1)):Dn 1 d ((Z:Rat) * P2 (-2000)):=by
  obtain ⟨z,h1,h2,h3,h4⟩:=h.val
  have e:sk 1 = 8000:=rfl
  have hz:z.natAbs < 2 ^ sk 1:=Nat.lt_of_le_of_lt h2 hZ
  refine ⟨z,h1,hz,by omega,h4⟩
omit hN hNl in
theorem Db.of {d:DY} {X:Int} (h:Dn 0 d (X:Rat)):Db d (X * ((pw (sk 0):Nat):Int)):=by
  obtain ⟨z,h1,h2,h3,h4⟩:=h
  have e:sk 0 = 2000:=rfl
  rw [e] at h3
  refine ⟨z,h1,h3,?_⟩
  have hq:(((X * ((pw (sk 0):Nat):Int):Int)):Rat) = ((z * ((2 ^ (d.2.1 + 2000).toNat:Nat):Int):Int):Rat):=by
    have ep:(((pw (sk 0):Nat):Int):Rat) = P2 ((sk 0:Nat):Int):=int2pow (sk 0)
    rw [Rat.intCast_mul,Rat.intCast_mul,ep,int2pow,h4,Rat.mul_assoc,← P2_add]
    congr 2
    omega
  exact Rat.intCast_inj.1 hq
theorem dadd_fix {a b:DY} {X Y:Int} (ha:Db a X) (hb:Db b Y) (hX:X.natAbs < pw 3000) (hY:Y.natAbs < pw 3000):∃ c,spec_Dyadic_Add N a b = some c ∧ Db c (X + Y):=by
  have n1:X.natAbs < pw (sk 1):=Nat.lt_of_lt_of_le hX (pw_le (by decide))
  have n2:Y.natAbs < pw (sk 1):=Nat.lt_of_lt_of_le hY (pw_le (by decide))
  have hda:=ha.dn n1
  have hdb:=hb.dn n2
  unfold spec_Dyadic_Add spec_Dyadic_Add_g
  simp only [eta3]
  obtain ⟨za,a1,a2,a3⟩:=ha
  obtain ⟨zb,b1,b2,b3⟩:=hb
  have sa:spec_Dyadic_Sign N a = some (cmpq ((X:Rat) * P2 (-2000)) 0):=dsign hN hNl hda
  have sb:spec_Dyadic_Sign N b = some (cmpq ((Y:Rat) * P2 (-2000)) 0):=dsign hN hNl hdb
  rw [sa,sb]
  simp only [Option.bind_some]
  have cz:∀ q:Rat,(cmpq q 0 == 0) = decide (q = 0):=by
    intro q
    unfold cmpq
    by_cases h1:q < 0
    · rw [if_pos h1,decide_eq_false (fun h=>by rw [h] at h1; exact absurd h1 (by decide))]; rfl
    · rw [if_neg h1]
      by_cases h2:q = 0
      · rw [if_pos h2,decide_eq_true h2]; rfl
      · rw [if_neg h2,decide_eq_false h2]; rfl
  have z0:∀ X:Int,((X:Rat) * P2 (-2000) = 0) ↔ X = 0:=fun X=>by rw [mulP2_zero]; exact intCast_eq_zero
  rw [cz,cz]
  by_cases hx:X = 0
  · rw [decide_eq_true ((z0 X).2 hx),cond_true]
    exact ⟨b,rfl,by rw [hx,Int.zero_add]; exact ⟨zb,b1,b2,b3⟩⟩
  · rw [decide_eq_false (fun h=>hx ((z0 X).1 h)),cond_false]
    by_cases hy:Y = 0
    · rw [decide_eq_true ((z0 Y).2 hy),cond_true]
      exact ⟨a,rfl,by rw [hy,Int.add_zero]; exact ⟨za,a1,a2,a3⟩⟩
    · rw [decide_eq_false (fun h=>hy ((z0 Y).1 h)),cond_false]
      have la:za.natAbs ≤ X.natAbs:=by
        rw [a3,Int.natAbs_mul,Int.natAbs_natCast]; exact Nat.le_mul_of_pos_right _ (Nat.two_pow_pos _)
      have lb:zb.natAbs ≤ Y.natAbs:=by
        rw [b3,Int.natAbs_mul,Int.natAbs_natCast]; exact Nat.le_mul_of_pos_right _ (Nat.two_pow_pos _)
      have e1:sk 1 = 8000:=rfl
      have add:∀ (p q:WH) (x y:Int) (ep eq:Int),Wv p x→Wv q y→x.natAbs < pw 3000→y.natAbs < pw 3000→-2000 ≤ eq→eq ≤ ep→ep ≤ 2000 →
          ∃ u c,spec_Whole_Up N p (IntKind.i64.wrap (ep - eq)) = some u ∧ spec_Whole_Add N u q = some c ∧ Wv c (x * ((2 ^ (ep - eq).toNat:Nat):Int) + y):=by
        intro p q x y ep eq hp hq hx' hy' h1 h2 h3
        have x8:x.natAbs < 2 ^ sk 1:=Nat.lt_of_lt_of_le hx' (pw_le (a:=3000) (b:=sk 1) (by decide))
        have y8:y.natAbs < 2 ^ sk 1:=Nat.lt_of_lt_of_le hy' (pw_le (a:=3000) (b:=sk 1) (by decide))
        obtain ⟨u,u1,u2,u3⟩:=dup hN hNl hp x8 (by decide) (ep - eq).toNat (by rw [e1]; omega)
        obtain ⟨c,c1,c2⟩:=wadd_spec hN hNl u2 hq (by have:=u2.len u3; rw [e1] at this; omega) (by have:=hq.len y8; rw [e1] at this; omega)
        have en:ep - eq = (((ep - eq).toNat:Nat):Int):=by omega
        exact ⟨u,c,by rw [wrap_in (by omega),en]; exact u1,c1,c2⟩
      have scale:∀ (x y ep eq:Int),-2000 ≤ eq→eq ≤ ep→(x * ((2 ^ (ep - eq).toNat:Nat):Int) + y) * ((2 ^ (eq + 2000).toNat:Nat):Int) = x * ((2 ^ (ep + 2000).toNat:Nat):Int) + y * ((2 ^ (eq + 2000).toNat:Nat):Int):=by
        intro x y ep eq h1 h2
        have e:2 ^ (ep + 2000).toNat = 2 ^ (ep - eq).toNat * 2 ^ (eq + 2000).toNat:=by rw [← Nat.pow_add]; congr 1; omega
        rw [Int.add_mul,Int.mul_assoc,← Int.natCast_mul,← e]
      simp only [Bool.cond_decide]
      by_cases hlt:a.2.1 > b.2.1
      · rw [if_pos hlt]
        obtain ⟨u,c,c1,c2,c3⟩:=add a.1 b.1 za zb a.2.1 b.2.1 a1 b1 (by omega) (by omega) b2.1 (by omega) a2.2
        rw [c1]
        simp only [Option.bind_some]
        rw [c2]
        exact ⟨_,rfl,_,c3,b2,by rw [scale _ _ _ _ b2.1 (by omega),← a3,← b3]⟩
      · rw [if_neg hlt]
        obtain ⟨u,c,c1,c2,c3⟩:=add b.1 a.1 zb za b.2.1 a.2.1 b1 a1 (by omega) (by omega) a2.1 (by omega) b2.2
        rw [c1]
        simp only [Option.bind_some]
        rw [c2]
        exact ⟨_,rfl,_,c3,a2,by rw [scale _ _ _ _ a2.1 (by omega),← a3,← b3,Int.add_comm]⟩
/-! ### nearness -/
theorem dshift {k:Nat} {d:DY} {q:Rat} (h:Dn k d q) (hk:k ≤ 8) (s:Int) (hs:-64 ≤ s ∧ s ≤ 64):∃ c,spec_Dyadic_Shift N d s = some c ∧ Dn (k + 1) c (q * P2 s):=by
  obtain ⟨z,h1,h2,h3,h4⟩:=h
  have hp:=sk_pos k
  have hle:=sk_le (k:=k + 1) (by omega)
  have hs4:=sk_succ k
  refine ⟨_,rfl,z,h1,Nat.lt_of_lt_of_le h2 (Nat.pow_le_pow_right (by decide) (by omega)),?_,?_⟩
  · show _ ≤ IntKind.i64.wrap (d.2.1 + s) ∧ IntKind.i64.wrap (d.2.1 + s) ≤ _
    rw [wrap_in (by omega)]; constructor <;> omega
  · show q * P2 s = (z:Rat) * P2 (IntKind.i64.wrap (d.2.1 + s))
    rw [wrap_in (by omega),h4,P2_add,Rat.mul_assoc]
theorem share_ab {j n:Int} (hn:0 < n) (hj:j.natAbs ≤ 1000 * n.natAbs):((j:Rat) / (n:Rat)) * (n:Rat) = (j:Rat) ∧ ab ((j:Rat) / (n:Rat)) ≤ 1000:=by
  have hn0:(0:Rat) < (n:Rat):=by have:=(intCast_lt (a:=0) (b:=n)).2 hn; simpa using this
  have e:((j:Rat) / (n:Rat)) * (n:Rat) = (j:Rat):=Rat.div_mul_cancel (by grind)
  refine ⟨e,?_⟩
  have h1:(j:Rat) ≤ (((1000 * n:Int)):Rat):=intCast_le.2 (by omega)
  have h2:(((-1000 * n:Int)):Rat) ≤ (j:Rat):=intCast_le.2 (by omega)
  rw [Rat.intCast_mul] at h1 h2
  have c1:((1000:Int):Rat) = 1000:=rfl
  have c2:((-1000:Int):Rat) = -1000:=rfl
  rw [c1] at h1
  rw [c2] at h2
  refine ab_le ?_ ?_
  · refine Rat.not_lt.1 fun h=>?_
    have:=(ratmul_lt hn0).2 h
    rw [e] at this
    grind
  · refine Rat.not_lt.1 fun h=>?_
    have:=(ratmul_lt hn0).2 h
    rw [e] at this
    grind
theorem quo {x y:Nat} {j n:Int} (hx:Wh x j) (hy:Wh y n) (hn:0 < n) (hj:j.natAbs ≤ 1000 * n.natAbs) :
    ∃ z,Ieee.double.div x y = some z ∧ Rnq z ((j:Rat) / (n:Rat)):=by
  obtain ⟨e,hb⟩:=share_ab hN hNl hn hj
  refine div_rnq hx.1 hy.1 ?_ ?_ ?_
  · rw [hy.2]
    intro h
    have h:=intCast_eq_zero.1 h
    omega
  · rw [hx.2,hy.2,e]
  · have h1:(1000:Rat) ≤ P2 10:=by rw [show (10:Int) = ((10:Nat):Int) from rfl,P2_nat]; decide +kernel
    have h2:P2 10 < P2 1022:=P2_lt_iff.2 (by decide)
    grind
theorem near {z:Nat} {j n:Int} (hn:0 < n) (hj:j.natAbs ≤ 1000 * n.natAbs) (hz:Rnq z ((j:Rat) / (n:Rat))) (h64:z < 18446744073709551616) {a b:DY} (ha:Dn 1 a (j:Rat)) (hb:Dn 0 b (n:Rat)) :
    laws_nearRatio N z (a,b,()) (-20) = some true:=by
  obtain ⟨e,hV⟩:=share_ab hN hNl hn hj
  have hn0:(0:Rat) < (n:Rat):=by have:=(intCast_lt (a:=0) (b:=n)).2 hn; simpa using this
  obtain ⟨c,e1,hc⟩:=dof hN hNl hz.fin h64
  obtain ⟨m,e2,hm⟩:=dmul hN hNl hc hb (by decide)
  obtain ⟨d,e3,hd⟩:=dsub hN hNl hm ha (by decide)
  obtain ⟨f,e4,hf⟩:=dabs hN hNl hd
  obtain ⟨g,e5,hg⟩:=dshift hN hNl hb (by decide) (-20) (by decide)
  have e6:=dcmp hN hNl hf (hg.upto (m:=2) (by decide)) (by decide)
  simp only [laws_nearRatio,laws_nearRatio_g,dfinite hN hNl hz.fin,Option.bind_some,cond_true]
  rw [show ((b.1.1,b.1.2.1,()),b.2.1,()) = b from rfl,show ((a.1.1,a.1.2.1,()),a.2.1,()) = a from rfl,e1]
  simp only [Option.bind_some,e2,e3,e4,e5,e6]
  have h1:=hz.e1
  have h2:=hz.e2
  have k1:P2 (-1074) ≤ P2 (-51):=P2_le (by decide)
  have k2:P2 (-20) = ((2 ^ 31:Nat):Rat) * P2 (-51):=by rw [show (-20:Int) = ((31:Nat):Int) + (-51) from rfl,P2_add,P2_nat]
  have k3:((2 ^ 31:Nat):Rat) = 2147483648:=by decide +kernel
  have k4:=P2_pos (-51)
  have k5:ab ((j:Rat) / (n:Rat)) * P2 (-51) ≤ 1000 * P2 (-51):=Rat.mul_le_mul_of_nonneg_right hV (Rat.le_of_lt k4)
  rw [k3] at k2
  have l1:fv z - (j:Rat) / (n:Rat) < P2 (-20):=by grind
  have l2:(j:Rat) / (n:Rat) - fv z < P2 (-20):=by grind
  have m1:=(ratmul_lt hn0).2 l1
  have m2:=(ratmul_lt hn0).2 l2
  have m3:(fv z - (j:Rat) / (n:Rat)) * (n:Rat) = fv z * (n:Rat) - (j:Rat):=by rw [Rat.sub_eq_add_neg,Rat.add_mul,Rat.neg_mul,e,← Rat.sub_eq_add_neg]
  have m4:((j:Rat) / (n:Rat) - fv z) * (n:Rat) = (j:Rat) - fv z * (n:Rat):=by rw [Rat.sub_eq_add_neg,Rat.add_mul,Rat.neg_mul,e,← Rat.sub_eq_add_neg]
  rw [m3,Rat.mul_comm (P2 (-20))] at m1
  rw [m4,Rat.mul_comm (P2 (-20))] at m2
  have m5:ab (fv z * (n:Rat) - (j:Rat)) < (n:Rat) * P2 (-20):=by unfold ab; split <;> grind
  have m6:cmpq (ab (fv z * (n:Rat) - (j:Rat))) ((n:Rat) * P2 (-20)) = -1:=by unfold cmpq; rw [if_pos m5]
  rw [m6]
  rfl
end
end Go.Proofs.YtjabjnkiddldeaaGreat.PvPCa
namespace Go.Proofs.YtjabjnkiddldeaaGreat.PvPC
open Go.Av Go
open Go.Proofs.YtjabjnkiddldeaaGreat.PC
open Go.Proofs.YtjabjnkiddldeaaGreat.PvWholeToPC
open Go.Proofs.YtjabjnkiddldeaaGreat.PvPlaneToPC
open Go.Proofs.YtjabjnkiddldeaaGreat.PvDyadicPC
open Go.Proofs.YtjabjnkiddldeaaGreat.PvWholePC
open Go.Proofs.YtjabjnkiddldeaaGreat.PvWhole2PC
open Go.Proofs.YtjabjnkiddldeaaGreat.PvGeoPC
open Go.Proofs.YtjabjnkiddldeaaGreat.PvPCa
/-- What the statement asks of each geometry. -/
structure PtOK (ly:Int) (g:Geo):Prop where
  kind:g.kind = 1
  lay:g.layout = ly
  l1:1 ≤ ly ∧ ly ≤ 8
  len:∃ s:Nat,2 ≤ s ∧ s ≤ 8 ∧ g.flat.length = s
  x:In 64 (g.flat.getD 0 0)
  y:In 64 (g.flat.getD 1 0)
section
variable {N:Nat} (hN:0 < N) (hNl:9223372036854775808 ≤ N)
include hN hNl
variable (N) in
/-- A double as an exact number. -/
def dy (x:Nat):DY:=(spec_DyadicOf N x).getD ((false,[],()),0,())
variable (N) in
/-- A place,exactly. -/
def ptOf (g:Geo):PT:=(dy N (g.flat.getD 0 0),dy N (g.flat.getD 1 0),())
theorem in_lt {x:Nat} {B:Int} (h:In B x) (h64:x < 18446744073709551616):∃ k:Int,Wh x k ∧ -B ≤ k ∧ k ≤ B ∧ spec_DyadicOf N x = some (dy N x) ∧ Dn 0 (dy N x) (k:Rat):=by
  obtain ⟨k,hk,h1,h2⟩:=h
  obtain ⟨c,e,hc⟩:=dof hN hNl hk.1 h64
  rw [hk.2] at hc
  have e2:dy N x = c:=by unfold dy; rw [e]; rfl
  exact ⟨k,hk,h1,h2,by rw [e2]; exact e,by rw [e2]; exact hc⟩
theorem lines_one {ly:Int} {g:Geo} (h:PtOK ly g) (h64:∀ x ∈ g.flat,x < 18446744073709551616) {s:Nat} (hs2:2 ≤ s) (hs8:s ≤ 8) (hl:g.flat.length = s) :
    spec_Lines N g.flat [(g.flat.length:Int)] (s:Int) = some ([[ptOf N g]],()):=by
  obtain ⟨m,hm⟩:∃ m,N = m + 2:=⟨N - 2,by omega⟩
  have g64:∀ i,i < g.flat.length→g.flat.getD i 0 < 18446744073709551616:=fun i hi=>by rw [getD_get hi]; exact h64 _ (List.getElem_mem hi)
  obtain ⟨X,_,_,_,ex,_⟩:=in_lt hN hNl h.x (g64 0 (by omega))
  obtain ⟨Y,_,_,_,ey,_⟩:=in_lt hN hNl h.y (g64 1 (by omega))
  have hp:spec_PointOf N (g.flat.getD 0 0) (g.flat.getD 1 0) = some (ptOf N g):=by
    unfold spec_PointOf spec_PointOf_g
    rw [ex,ey]
    rfl
  have w1:IntKind.i64.wrap (0 + 1) = 1:=wrap_in (by decide)
  have places:spec_Places N g.flat (s:Int) = some ([ptOf N g],()):=by
    unfold spec_Places spec_Places_g
    have fin:∀ l,spec_Places_j1 N l = some (l,()):=fun l=>by unfold spec_Places_j1 spec_Places_g1; rw [gate_pos hN]
    conv=>lhs; arg 2; rw [hm]
    rw [show spec_Places_l0 N (m + 2) g.flat (s:Int) 0 [] = spec_Places_g0 N g.flat (s:Int) (spec_Places_j1 N) (spec_Places_l0 N (m + 1) g.flat (s:Int)) 0 [] from rfl]
    unfold spec_Places_g0
    simp only [Bool.cond_decide]
    rw [if_pos (by omega),wrap_in (n:=0 + (s:Int)) (by omega),if_pos (by omega),w1,show nth g.flat 0 = some (g.flat.getD 0 0) by rw [getD_get (by omega)]; exact nth_get (i:=0) (by omega),show nth g.flat 1 = some (g.flat.getD 1 0) by rw [getD_get (by omega)]; exact nth_get (i:=1) (by omega)]
    simp only [Option.bind_some,hp]
    rw [lim_le (by simp)]
    simp only [Option.bind_some]
    rw [show spec_Places_l0 N (m + 1) g.flat (s:Int) (0 + (s:Int)) ([] ++ [ptOf N g]) = spec_Places_g0 N g.flat (s:Int) (spec_Places_j1 N) (spec_Places_l0 N m g.flat (s:Int)) (0 + (s:Int)) ([] ++ [ptOf N g]) from rfl]
    unfold spec_Places_g0
    simp only [Bool.cond_decide]
    rw [if_pos (by omega),wrap_in (n:=0 + (s:Int) + (s:Int)) (by omega),if_neg (by omega),fin]
    rfl
  unfold spec_Lines spec_Lines_g
  conv=>lhs; arg 2; rw [hm]
  rw [show spec_Lines_l0 N (m + 2) g.flat (s:Int) [(g.flat.length:Int)] 0 0 [] = spec_Lines_g0 N g.flat (s:Int) [(g.flat.length:Int)] (spec_Lines_j1 N (spec_Lines_l0 N (m + 1) g.flat (s:Int) [(g.flat.length:Int)]) g.flat (s:Int) [(g.flat.length:Int)]) (spec_Lines_l0 N (m + 1) g.flat (s:Int) [(g.flat.length:Int)]) 0 0 [] from rfl]
  unfold spec_Lines_g0
  simp only [Bool.cond_decide,List.length_cons,List.length_nil]
  rw [if_pos (by decide),show nth [(g.flat.length:Int)] 0 = some (g.flat.length:Int) from rfl]
  simp only [Option.bind_some]
  rw [if_pos (by omega),if_pos (by omega),chk2_int (by omega)]
  simp only [Option.bind_some]
  rw [show (0:Int).toNat = 0 from rfl,show (g.flat.length:Int).toNat = g.flat.length by omega,List.drop_zero,Nat.sub_zero,List.take_length,places]
  simp only [Option.bind_some]
  rw [lim_le (by simp)]
  simp only [Option.bind_some,gate_pos hN,w1]
  rw [show spec_Lines_l0 N (m + 1) g.flat (s:Int) [(g.flat.length:Int)] (imm true 0 (g.flat.length:Int)) 1 ([] ++ [[ptOf N g]]) = spec_Lines_g0 N g.flat (s:Int) [(g.flat.length:Int)] (spec_Lines_j1 N (spec_Lines_l0 N m g.flat (s:Int) [(g.flat.length:Int)]) g.flat (s:Int) [(g.flat.length:Int)]) (spec_Lines_l0 N m g.flat (s:Int) [(g.flat.length:Int)]) (imm true 0 (g.flat.length:Int)) 1 ([] ++ [[ptOf N g]]) from rfl]
  unfold spec_Lines_g0
  simp only [Bool.cond_decide,List.length_cons,List.length_nil]
  rw [if_neg (by decide)]
  rfl
/-- 'kindred' for points. -/
theorem kindred_ok (ly:Int) (gs:List Geo) (hd:∀ g ∈ gs,dep g ≤ N) (hw:∀ g ∈ gs,wfG g) (h64:∀ g ∈ gs,∀ x ∈ g.flat,x < 18446744073709551616) (hgl:gs.length ≤ 140737488351232) :
    ∃ l b,laws_kindred N 1 ly gs = some (l,b,()) ∧ (b = true→gs.length ≤ 20 ∧ (∀ g ∈ gs,PtOK ly g) ∧ l = gs.map fun g=>[ptOf N g]):=by
  unfold laws_kindred laws_kindred_g
  have j0:laws_kindred_j0 N 1 ly gs = some ([],false,()):=by unfold laws_kindred_j0 laws_kindred_g0; rw [gate_pos hN]
  rw [j0]
  cases h1:decide (ly < 1) with
  | true=>exact ⟨_,_,rfl,fun h=>by cases h⟩
  | false =>
  cases h2:decide (ly > 8) with
  | true=>exact ⟨_,_,rfl,fun h=>by cases h⟩
  | false =>
  simp only [decide_eq_false_iff_not] at h1 h2
  simp only [cond_false,gate_pos hN]
  cases h3:decide ((gs.length:Int) > 20) with
  | true=>exact ⟨_,_,rfl,fun h=>by cases h⟩
  | false =>
  simp only [decide_eq_false_iff_not] at h3
  obtain ⟨s,hs2,hs8,e1,e2⟩:=strides hN hNl (ly:=ly) ⟨by omega,by omega⟩
  simp only [cond_false,e1,Option.bind_some]
  rcases stateLoop0 (xs:=gs) (L:=fun n i (st:Int×List (List PT))=>laws_kindred_l1 N n 1 ly (s:Int) gs st.1 i st.2) (e:=fun o=>∃ l,o = some (l,false,())) (fin:=fun st=>some (st.2,decide (st.1 ≤ 100),()))
    (fun i st=>st.1 = (i:Int) ∧ (∀ g ∈ gs.take i,PtOK ly g) ∧ st.2 = (gs.take i).map fun g=>[ptOf N g])
    (fun n st hp=>by
      simp only [laws_kindred_l1,laws_kindred_g1,Bool.cond_decide]
      rw [if_neg (Int.lt_irrefl _)])
    (fun n i st hi hp=>by
      obtain ⟨c,ls⟩:=st
      obtain ⟨p1,p2,p3⟩:=hp
      simp only at p1 p2 p3
      subst p1 p3
      have hm:=List.getElem_mem hi
      have j2:∀ (r1:Int→Int→List (List PT)→Option (List (List PT)×Bool×Unit)) a b (g:Geo) l,laws_kindred_j2 N r1 1 ly (s:Int) gs a b g l = some ([],false,()):=fun r1 a b g l=>by unfold laws_kindred_j2 laws_kindred_g2; rw [gate_pos hN]
      simp only [laws_kindred_l1,laws_kindred_g1,eta,j2]
      rw [show decide ((i:Int) < (gs.length:Int)) = true by simp only [decide_eq_true_eq]; omega,cond_true,nth_get hi]
      simp only [Option.bind_some]
      cases k1:gs[i].kind != 1 with
      | true=>exact .inl ⟨_,rfl⟩
      | false =>
      cases k2:gs[i].layout != ly with
      | true=>exact .inl ⟨_,rfl⟩
      | false =>
      simp only [bne_eq_false_iff_eq] at k1 k2
      simp only [cond_false]
      obtain ⟨gb,hg,hgf⟩:=good_tot hN hNl N gs[i] (hd _ hm) (hd _ hm) (hw _ hm)
      rw [hg]
      simp only [Option.bind_some]
      cases gb with
      | false=>exact .inl ⟨_,rfl⟩
      | true =>
      have gf:=hgf rfl (by omega)
      simp only [Bool.not_true,cond_false,gate_pos hN]
      cases k3:(gs[i].flat.length:Int) == 0 with
      | true=>exact .inl ⟨_,rfl⟩
      | false =>
      have k3':¬ (gs[i].flat.length:Int) = 0:=by simpa using k3
      simp only [cond_false]
      have hfl:=(sz_of (hw _ hm)).1.flat
      rcases flatTo_spec hN hNl ly gs[i].flat (by omega) with ⟨l,hf⟩ | ⟨s',K,q1,q2,q3,q4,q5,q6,q7,q8⟩
      · rw [hf]; exact .inl ⟨_,rfl⟩
      · right
        rw [e1] at q5
        have hss:s' = s:=by have:=Option.some.inj q5; omega
        subst hss
        have hst:strd gs[i].layout = (s':Int):=by
          have:=stride_spec N gs[i].layout
          rw [k2,e1] at this
          rw [k2]; exact (Option.some.inj this).symm
        have hle:=(gf.point k1).2
        rw [hst] at hle
        have hK:K = 1:=by
          have h0:K ≠ 0:=fun h=>by subst h; simp at q3; rw [q3] at k3'; exact k3' rfl
          have:¬ 2 ≤ K:=fun h=>by
            have:2 * s' ≤ K * s':=Nat.mul_le_mul_right s' h
            omega
          omega
        subst hK
        have hin:=q8 (gs[i].flat.getD (0 * s') 0,gs[i].flat.getD (0 * s' + 1) 0,()) (by simp [pts])
        simp only [Nat.zero_mul,Nat.zero_add] at hin
        have ok:PtOK ly gs[i]:=⟨k1,k2,⟨by omega,by omega⟩,⟨s',q1,q2,by omega⟩,hin.1,hin.2⟩
        rw [q7]
        simp only [Option.bind_some,Bool.not_true,cond_false]
        rw [if_neg (by omega)]
        simp only [show ((1:Int) == 2) = false from rfl,show ((1:Int) == 8) = false from rfl,show ((1:Int) == 1) = true from rfl,cond_false,cond_true,gate_pos hN]
        refine ⟨((i + 1:Nat),(gs.take (i + 1)).map fun g=>[ptOf N g]),?_,rfl,fun g hg'=>?_,rfl⟩
        · unfold laws_kindred_j4 laws_kindred_g4
          rw [gate_pos hN,lines_one hN hNl ok (h64 _ hm) q1 q2 (by omega)]
          simp only [Option.bind_some]
          rw [lim_le (by simp only [List.length_map,List.length_take,List.length_cons,List.length_nil]; omega)]
          simp only [Option.bind_some]
          unfold laws_kindred_j5 laws_kindred_g5
          rw [gate_pos hN,succ_in hi (by omega)]
          have ed:Int.tdiv (gs[i].flat.length:Int) (s':Int) = 1:=by
            rw [show (gs[i].flat.length:Int) = (s':Int) by omega]
            exact Int.tdiv_self (by omega)
          rw [ed,wrap_in (n:=1) (by omega),wrap_in (n:=(i:Int) + 1) (by omega),List.take_add_one,List.getElem?_eq_getElem hi,List.map_append]
          rfl
        · rw [List.take_add_one,List.getElem?_eq_getElem hi] at hg'
          rcases List.mem_append.1 hg' with h | h
          · exact p2 g h
          · simp at h; subst h; exact ok) N (0,[]) (by omega) ⟨rfl,fun g hg=>by simp at hg,rfl⟩ with ⟨l,h⟩ | ⟨st,h,p1,p2,p3⟩
  · exact ⟨l,false,h,fun h=>by cases h⟩
  · refine ⟨st.2,decide (st.1 ≤ 100),h,fun _=>⟨by omega,fun g hg=>p2 g (by rw [List.take_length]; exact hg),by rw [p3,List.take_length]⟩⟩
/-- The sums of the exact places. -/
def sumX (f:Geo→Int) (gs:List Geo):Int:=(gs.map f).sum
omit hN hNl in
theorem sum_bd {f:Geo→Int}:∀ {gs:List Geo},(∀ g ∈ gs,-64 ≤ f g ∧ f g ≤ 64)→(sumX f gs).natAbs ≤ 64 * gs.length
  | [],_=>by simp [sumX]
  | g :: r,h=>by
    have h1:=h g (by simp)
    have h2:=sum_bd (gs:=r) fun x hx=>h x (by simp [hx])
    simp only [sumX,List.map_cons,List.sum_cons,List.length_cons] at h2 ⊢
    omega
omit hN hNl in
theorem sum_take {f:Geo→Int} {gs:List Geo} {i:Nat} (h:i < gs.length):sumX f (gs.take (i + 1)) = sumX f (gs.take i) + f gs[i]:=by
  unfold sumX
  rw [List.take_add_one,List.getElem?_eq_getElem h,List.map_append,List.sum_append]
  simp
omit hN hNl in
theorem pw_mul (a b:Nat):pw (a + b) = pw a * pw b:=Nat.pow_add 2 a b
omit hN hNl in
theorem small {X:Int} (h:X.natAbs ≤ 1280):(X * ((pw (sk 0):Nat):Int)).natAbs < pw 3000:=by
  rw [Int.natAbs_mul,Int.natAbs_natCast]
  have e:pw 3000 = pw 1000 * pw (sk 0):=by
    rw [← pw_mul]; rfl
  have e2:2048 ≤ pw 11:=by decide
  have l:pw 11 ≤ pw 1000:=pw_le (by decide)
  rw [e]
  exact Nat.mul_lt_mul_of_pos_right (Nat.lt_of_lt_of_le (Nat.lt_of_le_of_lt h (by decide)) (Nat.le_trans e2 l)) (Nat.two_pow_pos _)
omit hN hNl in
theorem db_zero:Db ((false,[],()),0,()) 0:=by
  exact ⟨0,⟨by simp [Lim],by simp [Nrm],fun _=>rfl,rfl⟩,⟨by decide,by decide⟩,(Int.zero_mul _).symm⟩
variable (N) in
/-- What is asked of the places,with their numbers. -/
structure PtX (fx fy:Geo→Int) (g:Geo):Prop where
  wx:Wh (g.flat.getD 0 0) (fx g)
  wy:Wh (g.flat.getD 1 0) (fy g)
  bx:-64 ≤ fx g ∧ fx g ≤ 64
  by_:-64 ≤ fy g ∧ fy g ≤ 64
  dx:Dn 0 (dy N (g.flat.getD 0 0)) (fx g:Rat)
  dy_:Dn 0 (dy N (g.flat.getD 1 0)) (fy g:Rat)
theorem mean_ok {fx fy:Geo→Int} {gs:List Geo} (h:∀ g ∈ gs,PtX N fx fy g) (hl:gs.length ≤ 20) (h0:0 < gs.length) :
    ∃ a b c,spec_Mean N (gs.map (ptOf N)) = some ((a,c,()),(b,c,()),true) ∧ Dn 1 a ((sumX fx gs:Int):Rat) ∧ Dn 1 b ((sumX fy gs:Int):Rat) ∧ Dn 0 c (((gs.length:Nat):Int):Rat):=by
  have toDn:∀ {d:DY} {X:Int},X.natAbs ≤ 1280→Db d (X * ((pw (sk 0):Nat):Int))→Dn 1 d (X:Rat):=by
    intro d X hX hd
    have:=hd.dn (Nat.lt_of_lt_of_le (small hX) (pw_le (a:=3000) (b:=sk 1) (by decide)))
    have e:((X * ((pw (sk 0):Nat):Int):Int):Rat) * P2 (-2000) = (X:Rat):=by
      have ep:(((pw (sk 0):Nat):Int):Rat) = P2 ((sk 0:Nat):Int):=int2pow (sk 0)
      have es:sk 0 = 2000:=rfl
      rw [Rat.intCast_mul,ep,Rat.mul_assoc,← P2_add,es,show ((2000:Nat):Int) + -2000 = 0 from rfl,P2_zero,Rat.mul_one]
    rw [e] at this
    exact this
  have bds:∀ i,(sumX fx (gs.take i)).natAbs ≤ 1280 ∧ (sumX fy (gs.take i)).natAbs ≤ 1280:=by
    intro i
    have hm:∀ g ∈ gs.take i,g ∈ gs:=fun g hg=>List.mem_of_mem_take hg
    have l1:=sum_bd (f:=fx) (gs:=gs.take i) fun g hg=>(h g (hm g hg)).bx
    have l2:=sum_bd (f:=fy) (gs:=gs.take i) fun g hg=>(h g (hm g hg)).by_
    rw [List.length_take] at l1 l2
    omega
  unfold spec_Mean spec_Mean_g
  rcases stateLoop0 (xs:=gs) (L:=fun n i (st:DY×DY)=>spec_Mean_l0 N n (gs.map (ptOf N)) i st.1.1.1 st.1.1.2.1 st.1.2.1 st.2.1.1 st.2.1.2.1 st.2.2.1) (e:=fun _=>False)
    (fin:=fun st=>(spec_IntOf N ((gs.length:Nat):Int)).bind fun c=>some ((st.1,c,()),(st.2,c,()),true))
    (fun i st=>Db st.1 (sumX fx (gs.take i) * ((pw (sk 0):Nat):Int)) ∧ Db st.2 (sumX fy (gs.take i) * ((pw (sk 0):Nat):Int)))
    (fun n st hp=>by
      simp only [spec_Mean_l0,spec_Mean_g0,Bool.cond_decide,List.length_map]
      rw [if_neg (Int.lt_irrefl _),show decide (((gs.length:Nat):Int) > 0) = true by simp only [decide_eq_true_eq]; omega])
    (fun n i st hi hp=>by
      right
      have hm:=List.getElem_mem hi
      have hx:=h _ hm
      obtain ⟨p1,p2⟩:=hp
      obtain ⟨c1,e1,d1⟩:=dadd_fix hN hNl p1 (Db.of hx.dx) (small (bds i).1) (small (by have:=hx.bx; omega))
      obtain ⟨c2,e2,d2⟩:=dadd_fix hN hNl p2 (Db.of hx.dy_) (small (bds i).2) (small (by have:=hx.by_; omega))
      refine ⟨(c1,c2),?_,?_,?_⟩
      · simp only [spec_Mean_l0,spec_Mean_g0,Bool.cond_decide,List.length_map]
        rw [if_pos (by omega),nth_get (by rw [List.length_map]; exact hi),List.getElem_map,succ_in hi (by omega)]
        simp only [Option.bind_some,ptOf]
        rw [show ((st.1.1.1,st.1.1.2.1,()),st.1.2.1,()) = st.1 from rfl,show (((dy N (gs[i].flat.getD 0 0)).1.1,(dy N (gs[i].flat.getD 0 0)).1.2.1,()),(dy N (gs[i].flat.getD 0 0)).2.1,()) = dy N (gs[i].flat.getD 0 0) from rfl,e1,
          show ((st.2.1.1,st.2.1.2.1,()),st.2.2.1,()) = st.2 from rfl,show (((dy N (gs[i].flat.getD 1 0)).1.1,(dy N (gs[i].flat.getD 1 0)).1.2.1,()),(dy N (gs[i].flat.getD 1 0)).2.1,()) = dy N (gs[i].flat.getD 1 0) from rfl,e2]
        rfl
      · rw [sum_take hi,Int.add_mul]; exact d1
      · rw [sum_take hi,Int.add_mul]; exact d2) N (((false,[],()),0,()),((false,[],()),0,())) (by omega) ⟨by simpa [sumX] using db_zero,by simpa [sumX] using db_zero⟩ with h2 | ⟨st,h2,p1,p2⟩
  · exact h2.elim
  · rw [List.take_length] at p1 p2
    obtain ⟨c,hc1,hc2⟩:=dint hN hNl ((gs.length:Nat):Int) (by omega)
    have b:=bds gs.length
    rw [List.take_length] at b
    refine ⟨st.1,st.2,c,?_,toDn b.1 p1,toDn b.2 p2,hc2⟩
    have h3:=h2
    rw [hc1] at h3
    simp only [Option.bind_some] at h3
    exact h3
/-- The program's sums. -/
theorem impl_ok' {ly:Int} {fx fy:Geo→Int} {gs:List Geo} (h:∀ g ∈ gs,PtX N fx fy g) (hk:∀ g ∈ gs,PtOK ly g) (hw:∀ g ∈ gs,wfG g) (hl:gs.length ≤ 20) (h0:0 < gs.length) :
    ∃ u v x y,impl_PointsCentroid N gs = some ([u,v],true,()) ∧ Wh x (sumX fx gs) ∧ Wh y (sumX fy gs) ∧ Ieee.double.div x (i2f ((gs.length:Nat):Int)) = some u ∧ Ieee.double.div y (i2f ((gs.length:Nat):Int)) = some v:=by
  have bds:∀ i,(sumX fx (gs.take i)).natAbs ≤ 1280 ∧ (sumX fy (gs.take i)).natAbs ≤ 1280:=by
    intro i
    have hm:∀ g ∈ gs.take i,g ∈ gs:=fun g hg=>List.mem_of_mem_take hg
    have l1:=sum_bd (f:=fx) (gs:=gs.take i) fun g hg=>(h g (hm g hg)).bx
    have l2:=sum_bd (f:=fy) (gs:=gs.take i) fun g hg=>(h g (hm g hg)).by_
    rw [List.length_take] at l1 l2
    omega
  have w1:IntKind.i64.wrap (0 + 1) = 1:=wrap_in (by decide)
  unfold impl_PointsCentroid impl_PointsCentroid_g xy_NewPointCentroidCalculator xy_NewPointCentroidCalculator_g
  simp only [Option.bind_some]
  rcases stateLoop0 (xs:=gs) (L:=fun n i (st:Int×List Nat)=>impl_PointsCentroid_l0 N n gs i st.1 st.2) (e:=fun _=>False)
    (fin:=fun st=>(xy_PointCentroidCalculator_GetCentroid N (st.1,st.2,())).bind fun v14=>(impl_floats N v14.1).bind fun v15=>some (v15.1,true,()))
    (fun i st=>st.1 = (i:Int) ∧ ∃ x y,st.2 = [x,y] ∧ Wh x (sumX fx (gs.take i)) ∧ Wh y (sumX fy (gs.take i)))
    (fun n st hp=>by
      simp only [impl_PointsCentroid_l0,impl_PointsCentroid_g0,Bool.cond_decide]
      rw [if_neg (Int.lt_irrefl _)])
    (fun n i st hi hp=>by
      right
      obtain ⟨c,ls⟩:=st
      obtain ⟨p1,x,y,p2,p3,p4⟩:=hp
      simp only at p1 p2
      subst p1 p2
      have hm:=List.getElem_mem hi
      have hx:=h _ hm
      have hg:=hk _ hm
      obtain ⟨s,q1,q2,q3⟩:=hg.len
      have bi:=bds (i + 1)
      rw [sum_take hi,sum_take hi] at bi
      obtain ⟨x',e1,wx⟩:=add_wh p3 hx.wx (by omega)
      obtain ⟨y',e2,wy⟩:=add_wh p4 hx.wy (by omega)
      have hfl:=(sz_of (hw _ hm)).1.flat
      have hflat:gs[i].flat.length * 8 ≤ 140737488355328:=by omega
      obtain ⟨s',_,_,_,hst⟩:=strides hN hNl (ly:=gs[i].layout) (by rw [hg.lay]; exact hg.l1)
      obtain ⟨M,hM⟩:∃ M,N = M + 1:=⟨N - 1,by omega⟩
      have geo:impl_geometry N N gs[i] = some (Ce.ifc 61 (Ce.ptr [Ce.int .i64 gs[i].layout,Ce.int .i64 (s':Int),Ce.fl gs[i].flat,Ce.int .i64 gs[i].srid]),()):=by
        conv=>lhs; arg 2; rw [hM]
        simp only [impl_geometry]
        unfold impl_geometry_g impl_floats impl_floats_g
        rw [lim_le hflat,hg.kind]
        simp only [Option.bind_some,show ((1:Int) == 1) = true from rfl,cond_true,gogeom_NewPointFlat_b,gogeom_NewPointFlat_b_g,gogeom_Point_SetSRID,gogeom_Point_SetSRID_g,hst]
      refine ⟨((i + 1:Nat),[x',y']),?_,rfl,x',y',rfl,by rw [sum_take hi]; exact wx,by rw [sum_take hi]; exact wy⟩
      simp only [impl_PointsCentroid_l0,impl_PointsCentroid_g0,Bool.cond_decide,eta]
      rw [if_pos (by omega),nth_get hi]
      simp only [Option.bind_some]
      rw [geo]
      have n0:nth gs[i].flat 0 = some (gs[i].flat.getD 0 0):=by rw [getD_get (by omega)]; exact nth_get (i:=0) (by omega)
      have n1:nth gs[i].flat 1 = some (gs[i].flat.getD 1 0):=by rw [getD_get (by omega)]; exact nth_get (i:=1) (by omega)
      have ap:xy_PointCentroidCalculator_AddPoint N ((i:Int),[x,y],()) (Ce.ptr [Ce.int .i64 gs[i].layout,Ce.int .i64 (s':Int),Ce.fl gs[i].flat,Ce.int .i64 gs[i].srid]) = some ((((i + 1:Nat):Int),[x',y'],()),()):=by
        show (xy_PointCentroidCalculator_AddCoord N ((i:Int),[x,y],()) gs[i].flat).bind _ = _
        unfold xy_PointCentroidCalculator_AddCoord xy_PointCentroidCalculator_AddCoord_g
        rw [n0,n1,show chk 0 [x,y].length = some 0 from rfl]
        simp only [Option.bind_some]
        rw [show [x,y][0]? = some x from rfl]
        simp only [Option.bind_some,e1]
        rw [show ([x,y].set 0 x') = [x',y] from rfl,show chk 1 [x',y].length = some 1 from rfl]
        simp only [Option.bind_some]
        rw [show [x',y][1]? = some y from rfl]
        simp only [Option.bind_some,e2,succ_in hi (show gs.length ≤ 9223372036854775807 by omega)]
        rfl
      show (xy_PointCentroidCalculator_AddPoint N ((i:Int),[x,y],()) (Ce.ptr [Ce.int .i64 gs[i].layout,Ce.int .i64 (s':Int),Ce.fl gs[i].flat,Ce.int .i64 gs[i].srid])).bind _ = _
      rw [ap,succ_in hi (by omega)]
      rfl) N (0,[0,0]) (by omega) ⟨rfl,0,0,rfl,by simpa [sumX] using wh_zero,by simpa [sumX] using wh_zero⟩ with h2 | ⟨st,h2,p1,x,y,p2,p3,p4⟩
  · exact h2.elim
  · rw [List.take_length] at p3 p4
    have b:=bds gs.length
    rw [List.take_length] at b
    have wn:=i2f_wh ((gs.length:Nat):Int) (by omega)
    obtain ⟨u,hu,_⟩:=quo hN hNl p3 wn (by omega) (by have:=Int.natAbs_natCast gs.length; have:=sum_bd (f:=fx) (gs:=gs) fun g hg=>(h g hg).bx; omega)
    obtain ⟨v,hv,_⟩:=quo hN hNl p4 wn (by omega) (by have:=Int.natAbs_natCast gs.length; have:=sum_bd (f:=fy) (gs:=gs) fun g hg=>(h g hg).by_; omega)
    refine ⟨u,v,x,y,?_,p3,p4,hu,hv⟩
    have h3:=h2
    simp only at h3
    rw [h3,p1,p2]
    have gc:xy_PointCentroidCalculator_GetCentroid N (((gs.length:Nat):Int),[x,y],()) = some ([u,v],()):=by
      unfold xy_PointCentroidCalculator_GetCentroid xy_PointCentroidCalculator_GetCentroid_g
      rw [show nth [x,y] 0 = some x from rfl,show nth [x,y] 1 = some y from rfl]
      simp only [Option.bind_some,hu,hv]
      rfl
    rw [gc]
    rfl
/-- The law. -/
theorem law (ly:Int) (gs:List Geo) (hd:∀ g ∈ gs,dep g ≤ N) (hw:∀ g ∈ gs,wfG g) (h64:∀ g ∈ gs,∀ x ∈ g.flat,x < 18446744073709551616) (hgl:gs.length ≤ 140737488351232):laws_FnPointsCentroid N ly gs = some true:=by
  unfold laws_FnPointsCentroid laws_FnPointsCentroid_g
  cases z:decide ((gs.length:Int) > 2147483647) with
  | true=>rfl
  | false =>
  obtain ⟨l,b,hkd,hb⟩:=kindred_ok hN hNl ly gs hd hw h64 hgl
  simp only [cond_false,hkd,Option.bind_some]
  cases b with
  | false=>rfl
  | true =>
  obtain ⟨hl,hok,rfl⟩:=hb rfl
  simp only [Bool.not_true,cond_false]
  cases z0:(gs.length:Int) == 0 with
  | true=>rfl
  | false =>
  have h0:0 < gs.length:=by
    have:¬ (gs.length:Int) = 0:=by simpa using z0
    omega
  simp only [cond_false]
  have g64:∀ g ∈ gs,∀ i,i < g.flat.length→g.flat.getD i 0 < 18446744073709551616:=fun g hg i hi=>by rw [getD_get hi]; exact h64 _ hg _ (List.getElem_mem hi)
  -- the whole numbers
  have ex:∀ g:Geo,∃ X Y:Int,g ∈ gs→Wh (g.flat.getD 0 0) X ∧ Wh (g.flat.getD 1 0) Y ∧ (-64 ≤ X ∧ X ≤ 64) ∧ (-64 ≤ Y ∧ Y ≤ 64) ∧ Dn 0 (dy N (g.flat.getD 0 0)) (X:Rat) ∧ Dn 0 (dy N (g.flat.getD 1 0)) (Y:Rat):=by
    intro g
    by_cases hg:g ∈ gs
    · obtain ⟨s,q1,q2,q3⟩:=(hok g hg).len
      obtain ⟨X,x1,x2,x3,x4,x5⟩:=in_lt hN hNl (hok g hg).x (g64 g hg 0 (by omega))
      obtain ⟨Y,y1,y2,y3,y4,y5⟩:=in_lt hN hNl (hok g hg).y (g64 g hg 1 (by omega))
      exact ⟨X,Y,fun _=>⟨x1,y1,⟨x2,x3⟩,⟨y2,y3⟩,x5,y5⟩⟩
    · exact ⟨0,0,fun h=>absurd h hg⟩
  obtain ⟨fx,hfx⟩:=Classical.axiomOfChoice ex
  obtain ⟨fy,hfy⟩:=Classical.axiomOfChoice hfx
  have hX:∀ g ∈ gs,PtX N fx fy g:=fun g hg=>by
    obtain ⟨a1,a2,a3,a4,a5,a6⟩:=hfy g hg
    exact ⟨a1,a2,a3,a4,a5,a6⟩
  obtain ⟨a,b,c,hmean,da,db,dc⟩:=mean_ok hN hNl hX hl h0
  obtain ⟨u,v,x,y,himp,wx,wy,hu,hv⟩:=impl_ok' hN hNl hX hok hw hl h0
  rcases stateLoop0 (xs:=gs) (L:=fun n i st=>laws_FnPointsCentroid_l0 N n gs (gs.map fun g=>[ptOf N g],true,()) i st) (e:=fun _=>False)
    (fin:=fun st=>laws_FnPointsCentroid_l0 N 1 gs (gs.map fun g=>[ptOf N g],true,()) (gs.length:Int) st) (fun i st=>st = (gs.take i).map (ptOf N))
    (fun n st hp=>by
      simp only [laws_FnPointsCentroid_l0,laws_FnPointsCentroid_g0,Bool.cond_decide,List.length_map]
      rw [if_neg (Int.lt_irrefl _),if_neg (Int.lt_irrefl _)])
    (fun n i st hi hp=>by
      right
      subst hp
      refine ⟨(gs.take (i + 1)).map (ptOf N),?_,rfl⟩
      simp only [laws_FnPointsCentroid_l0,laws_FnPointsCentroid_g0,Bool.cond_decide,List.length_map]
      rw [if_pos (by omega),chk_nat (by omega)]
      simp only [Option.bind_some]
      rw [List.getElem?_map,List.getElem?_eq_getElem hi]
      simp only [Option.map_some,Option.bind_some,List.length_cons,List.length_nil]
      rw [show (((0 + 1:Nat):Int) != 1) = false from rfl,cond_false,lim_le (by rw [List.length_take]; omega),succ_in hi (by omega),List.take_add_one,List.getElem?_eq_getElem hi,List.map_append]
      rfl) N [] (by omega) rfl with h | ⟨st,h,hp⟩
  · exact h.elim
  · rw [h]
    subst hp
    rw [List.take_length]
    simp only [laws_FnPointsCentroid_l0,laws_FnPointsCentroid_g0,Bool.cond_decide,List.length_map]
    rw [if_neg (Int.lt_irrefl _),hmean,himp]
    simp only [Option.bind_some,cond_true]
    have bx:=sum_bd (f:=fx) (gs:=gs) fun g hg=>(hX g hg).bx
    have by':=sum_bd (f:=fy) (gs:=gs) fun g hg=>(hX g hg).by_
    have wn:=i2f_wh ((gs.length:Nat):Int) (by omega)
    obtain ⟨u',hu',ru⟩:=quo hN hNl wx wn (by omega) (by have:=Int.natAbs_natCast gs.length; omega)
    obtain ⟨v',hv',rv⟩:=quo hN hNl wy wn (by omega) (by have:=Int.natAbs_natCast gs.length; omega)
    rw [hu] at hu'
    rw [hv] at hv'
    obtain rfl:=Option.some.inj hu'
    obtain rfl:=Option.some.inj hv'
    have n1:=near hN hNl (by omega) (by have:=Int.natAbs_natCast gs.length; omega) ru (div_lt hu) da dc
    have n2:=near hN hNl (by omega) (by have:=Int.natAbs_natCast gs.length; omega) rv (div_lt hv) db dc
    have cen:laws_centred N [u,v] (a,c,()) (b,c,()) 2 = some true:=by
      unfold laws_centred laws_centred_g
      rw [show (([u,v].length:Int) != 2) = false from rfl,show decide ((2:Int) < 2) = false from rfl,show nth [u,v] 0 = some u from rfl,show nth [u,v] 1 = some v from rfl]
      simp only [cond_false,Option.bind_some]
      rw [show (((a.1.1,a.1.2.1,()),a.2.1,()),((c.1.1,c.1.2.1,()),c.2.1,()),()) = (a,c,()) from rfl,show (((b.1.1,b.1.2.1,()),b.2.1,()),((c.1.1,c.1.2.1,()),c.2.1,()),()) = (b,c,()) from rfl,n1,n2]
      simp only [Option.bind_some,Bool.not_true,cond_false,gate_pos hN]
      rw [show chk2 2 ([u,v].length:Int) [u,v].length = some (2,2) from rfl]
      simp only [Option.bind_some]
      obtain ⟨M,hM⟩:∃ M,N = M + 1:=⟨N - 1,by omega⟩
      conv=>lhs; arg 2; rw [hM]
      rfl
    rw [show (((a.1.1,a.1.2.1,()),a.2.1,()),((c.1.1,c.1.2.1,()),c.2.1,()),()) = (a,c,()) from rfl,show (((b.1.1,b.1.2.1,()),b.2.1,()),((c.1.1,c.1.2.1,()),c.2.1,()),()) = (b,c,()) from rfl,cen]
    rfl
omit hN hNl in
theorem flat64 {g:Geo} (h:wfG g):∀ x ∈ g.flat,x < 18446744073709551616:=by
  cases g with
  | mk kd ly sr flat ends endss kids =>
    simp only [wfG] at h
    exact h.2.2.2.1.2
/-- The law,at good data. -/
theorem top (ly:Int) (gs:List Geo) (hw:wf (.list .geo) gs) (hd:deps gs ≤ N):laws_FnPointsCentroid N ly gs = some true :=
  law hN hNl ly gs (fun g hg=>Nat.le_trans (dep_mem hg) hd) (fun g hg=>hw.2 g hg) (fun g hg=>flat64 (hw.2 g hg)) (by have:=hw.1.2; simp only [Kd.bytes] at this; omega)
end
end Go.Proofs.YtjabjnkiddldeaaGreat.PvPC
