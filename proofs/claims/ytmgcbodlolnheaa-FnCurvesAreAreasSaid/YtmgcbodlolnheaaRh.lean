/- An edge's row over three columns and more: its bumps are as they should be. No program is in sight. -/
import Derived.Test.YtmgcbodlolnheaaRg
namespace Go.Proofs.Ytmgcbodlolnheaa
open Ieee

section
variable {x y : Nat} {a b B : Rat}
theorem addB (hx : F32 x a) (hy : F32 y b) (h : ab (a + b) ≤ B) (hB : B ≤ 1000000) : ∃ r c, add32 x y = some r ∧ F32 r c ∧ Rounds single (a + b) c ∧ ab (c - (a + b)) ≤ B * u32 := by
  have hu := u32_pos
  obtain ⟨r, c, h1, h2, h3, h4⟩ := f32_add hx hy (Rat.le_trans (Rat.le_trans h hB) (le_huge (by decide +kernel)))
  refine ⟨r, c, h1, h2, h3, ?_⟩
  have := mul_le_mul_l h (Rat.le_of_lt hu)
  grind
theorem subB (hx : F32 x a) (hy : F32 y b) (h : ab (a - b) ≤ B) (hB : B ≤ 1000000) : ∃ r c, sub32 x y = some r ∧ F32 r c ∧ Rounds single (a - b) c ∧ ab (c - (a - b)) ≤ B * u32 := by
  have hu := u32_pos
  obtain ⟨r, c, h1, h2, h3, h4⟩ := f32_sub hx hy (Rat.le_trans (Rat.le_trans h hB) (le_huge (by decide +kernel)))
  refine ⟨r, c, h1, h2, h3, ?_⟩
  have := mul_le_mul_l h (Rat.le_of_lt hu)
  grind
theorem mulB (hx : F32 x a) (hy : F32 y b) (h : ab (a * b) ≤ B) (hB : B ≤ 1000000) : ∃ r c, mul32 x y = some r ∧ F32 r c ∧ Rounds single (a * b) c ∧ ab (c - a * b) ≤ (B + 1 / 1000) * u32 := by
  have hu := u32_pos
  have ht := tiny_u
  obtain ⟨r, c, h1, h2, h3, h4⟩ := f32_mul hx hy (Rat.le_trans (Rat.le_trans h hB) (le_huge (by decide +kernel)))
  refine ⟨r, c, h1, h2, h3, ?_⟩
  have := mul_le_mul_l h (Rat.le_of_lt hu)
  grind
end

theorem u32_small : u32 ≤ 1 / 1000000 := by decide +kernel

theorem far_a1 {sw fw : Nat} {sv fv S o : Rat} (fs : F32 sw sv) (ff : F32 fw fv) (hS0 : 0 ≤ S) (hS1 : S ≤ 1) (ho0 : 0 ≤ o) (ho1 : o ≤ 1) (ns : ab (sv - S) ≤ 18 / 5 * u32 * S) (nf : ab (fv - (1 - o)) ≤ u32 / 2) :
    ∃ q a1w a1, sub32 w15 fw = some q ∧ mul32 sw q = some a1w ∧ F32 a1w a1 ∧ ab (a1 - S * (o + 1 / 2)) ≤ 10 * u32 := by
  have hu := u32_pos
  have hu2 := u32_small
  have uS := mul_le_mul_l hS1 (Rat.le_of_lt hu)
  have nfn := near_le nf
  have nsn := near_le ns
  have uS0 := mul_nn (Rat.le_of_lt hu) hS0
  have bq : ab (3 / 2 - fv) ≤ 151 / 100 := by rw [ab_le]; grind
  obtain ⟨q, qv, e1, f1, _, k1⟩ := subB v_w15 ff bq (by decide +kernel)
  have k1n := near_le k1
  have bqv : ab qv ≤ 152 / 100 := by have := ab_le.1 bq; rw [ab_le]; grind
  have bs : ab sv ≤ 101 / 100 := by rw [ab_le]; grind
  have bsq := ab_mul_le bs bqv
  obtain ⟨a1w, a1, e2, f2, _, k2⟩ := mulB fs f1 bsq (by decide +kernel)
  refine ⟨q, a1w, a1, e1, e2, f2, ?_⟩
  have t1 := ab_mul_le ns bqv
  have t2 : ab (S * (qv - (o + 1 / 2))) ≤ S * (202 / 100 * u32) := by
    refine ab_mul_le (by rw [ab_of_nonneg hS0]; exact Rat.le_refl) ?_
    rw [ab_le]; grind
  have m1 := ab_le.1 t1
  have m2 := ab_le.1 t2
  have m3 := ab_le.1 k2
  clear t1 t2 k2 bsq bq bqv k1 ns nf
  rw [ab_le]; grind

theorem far_k {sw : Nat} {sv S : Rat} {K : Nat} (fs : F32 sw sv) (hS0 : 0 ≤ S) (hSK : S * K ≤ 1) (hK : (K : Rat) ≤ 300) (ns : ab (sv - S) ≤ 18 / 5 * u32 * S) :
    ∃ kw kv, mul32 sw (of32 (K : Int)) = some kw ∧ F32 kw kv ∧ ab (kv - sv * K) ≤ 2 * u32 ∧ ab (kv - S * K) ≤ 6 * u32 := by
  have hu := u32_pos
  have hu2 := u32_small
  have hK0 : (0 : Rat) ≤ K := by exact_mod_cast Nat.zero_le K
  have hSK0 := mul_nn hS0 hK0
  have hKn : ((K : Int)).natAbs < 2 ^ 24 := by
    have h2 : ((K : Nat) : Rat) ≤ ((300 : Nat) : Rat) := by push_cast; exact hK
    have := Rat.natCast_le_natCast.1 h2
    omega
  have fK := of32_ok (K : Int) hKn
  rw [Rat.intCast_natCast] at fK
  have nsn := near_le ns
  have t1 := mul_le_mul_r nsn.1 hK0
  have t2 := mul_le_mul_r nsn.2 hK0
  have t3 := mul_le_mul_r hu2 hSK0
  have t4 := mul_le_mul_l hSK (Rat.le_of_lt hu)
  have bsK : ab (sv * K) ≤ 101 / 100 := by
    rw [ab_le]; clear ns fK; grind
  obtain ⟨kw, kv, E3, F3, _, j3⟩ := mulB fs fK bsK (by decide +kernel)
  have j3n := near_le j3
  refine ⟨kw, kv, E3, F3, by rw [ab_le]; grind, ?_⟩
  clear fs fK ns
  rw [ab_le]; grind

theorem far_ds {d sw : Nat} {dv sv S : Rat} (hd : F32 d dv) (fs : F32 sw sv) (bd : ab dv ≤ 101 / 100) (hS0 : 0 ≤ S) (hS1 : S ≤ 1) (hSmin : 1 ≤ 260 * S) (ns : ab (sv - S) ≤ 18 / 5 * u32 * S) :
    ∃ ds dsv, mul32 d sw = some ds ∧ F32 ds dsv ∧ ab (dsv - dv * sv) ≤ 2 * u32 * S ∧ ab (dsv - dv * S) ≤ 6 * u32 * S := by
  have hu := u32_pos
  have hu2 := u32_small
  have ht := tiny_u
  have t0 := mul_le_mul_r hu2 hS0
  have nsn := near_le ns
  have us := mul_nn (Rat.le_of_lt hu) hS0
  have bs : ab sv ≤ 1001 / 1000 * S := by rw [ab_le]; grind
  have bds := ab_mul_le bd bs
  obtain ⟨ds, dsv, E2, F2, _, j2⟩ := f32_mul hd fs (Rat.le_trans bds (Rat.le_trans (show _ ≤ (2 : Rat) by grind) (le_huge (by decide +kernel))))
  have j2' : ab (dsv - dv * sv) ≤ 2 * u32 * S := by
    have t2 := mul_le_mul_l bds (Rat.le_of_lt hu)
    have t3 : tiny32 ≤ u32 * S * (1 / 2) := by
      have := mul_le_mul_l hSmin (Rat.le_of_lt hu); grind
    grind
  refine ⟨ds, dsv, E2, F2, j2', ?_⟩
  have t1 := ab_le.1 (ab_mul_le bd ns)
  have t2 := ab_le.1 j2'
  clear ns j2 j2' hd fs bds bs
  rw [ab_le]; grind

/-- The words of a row over three columns and more. -/
structure FarWords (d x0 x1 : Nat) (z y : Int) (K : Nat) (dv S A0 A1 Am : Rat) (v0 v1 ds v3 v4 : Nat) (w0 w1 dsv w3 w4 : Rat) : Prop where
  prog : ∀ n base W b, rowFar n base W z y d x0 x1 b = bumps n base W ([⟨z, v0, w0⟩, ⟨z + 1, v1, w1⟩] ++ (mids (z + 2) ds dsv K ++ [⟨y - 1, v3, w3⟩, ⟨y, v4, w4⟩])) b
  f0 : F32 v0 w0
  f1 : F32 v1 w1
  fd : F32 ds dsv
  f3 : F32 v3 w3
  f4 : F32 v4 w4
  k0 : ab (w0 - dv * A0) ≤ 63 * u32
  k1 : ab (w1 - dv * (A1 - A0)) ≤ 83 * u32
  k01 : ab (w0 + w1 - dv * A1) ≤ 25 * u32
  kd : ab (dsv - dv * S) ≤ 6 * u32 * S
  k3 : ab (w3 - dv * (1 - (A1 + S * K) - Am)) ≤ 95 * u32
  k4 : ab (w4 - dv * Am) ≤ 63 * u32
  kall : ab (w0 + w1 + K * dsv + w3 + w4 - dv) ≤ 40 * u32

theorem bumps_two (n base W : Nat) (p q : Bp) (b : Nat → Nat) : bumps n base W [p, q] b = (bump n base W p.xi (some p.w) b).bind fun b' => bump n base W q.xi (some q.w) b' := by
  show (bump n base W p.xi (some p.w) b).bind (fun b' => (bump n base W q.xi (some q.w) b').bind some) = _
  congr 1
  funext b'
  cases bump n base W q.xi (some q.w) b' <;> rfl

theorem obind_assoc {α β γ : Type} (o : Option α) (f : α → Option β) (g : β → Option γ) : (o.bind f).bind g = o.bind fun a => (f a).bind g := by cases o <;> rfl

set_option maxHeartbeats 1000000 in
theorem far_words {x0 x1 d : Nat} {dv a c S A0 A1 Am : Rat} {z y : Int} {sw fw a0w amw K : Nat} {sv fv a0 am : Rat} (H : FarHead x0 x1 z y a c S sw fw a0w amw sv fv a0 am) (hd : F32 d dv) (bd : ab dv ≤ 101 / 100)
    (hS0 : 0 ≤ S) (hS1 : S ≤ 1) (hSmin : 1 ≤ 260 * S) (hSK : S * K ≤ 1) (hK : (K : Rat) ≤ 300) (ho0 : 0 ≤ 1 - (a - z)) (ho1 : 1 - (a - z) ≤ 1) (hy : z + 3 + (K : Int) = y)
    (eA0 : S * ((1 - (a - z)) * (1 - (a - z))) / 2 = A0) (eA1 : S * ((1 - (a - z)) + 1 / 2) = A1) (eAm : S * ((c - y + 1) * (c - y + 1)) / 2 = Am)
    (bA0 : 0 ≤ A0) (bA01 : A0 ≤ 1) (bA1 : 0 ≤ A1) (bAm : 0 ≤ Am) (bAm1 : Am ≤ 1) (bA : A1 + S * K ≤ 1) :
    ∃ v0 v1 ds v3 v4 w0 w1 dsv w3 w4, FarWords d x0 x1 z y K dv S A0 A1 Am v0 v1 ds v3 v4 w0 w1 dsv w3 w4 := by
  have hu := u32_pos
  have hu2 := u32_small
  have hK0 : (0 : Rat) ≤ K := by exact_mod_cast Nat.zero_le K
  have hSK0 := mul_nn hS0 hK0
  have hn0 := H.n0
  have hnm := H.nm
  rw [eA0] at hn0
  rw [eAm] at hnm
  obtain ⟨q, a1w, a1, X1, X2, f1, hA1⟩ := far_a1 (o := 1 - (a - z)) H.fs H.ff hS0 hS1 ho0 ho1 H.ns (by rw [show (1 : Rat) - (1 - (a - z)) = a - z by grind]; exact H.nf)
  rw [eA1] at hA1
  obtain ⟨kw, kv, X4, f2, hk1, hk2⟩ := far_k H.fs hS0 hSK hK H.ns
  obtain ⟨ds, dsv, X3, f3, hs1, hs2⟩ := far_ds hd H.fs bd hS0 hS1 hSmin H.ns
  have hh := rowFar_head H
  have ff0 := H.f0
  have ffm := H.fm
  clear H eA0 eA1 eAm ho0 ho1
  have n0 := near_le hn0
  have nm := near_le hnm
  have n1 := near_le hA1
  have nk := near_le hk2
  have nk1 := near_le hk1
  have b12 : ab (a1 + kv) ≤ 1001 / 1000 := by rw [ab_le]; grind
  obtain ⟨a2w, a2, X5, f4, _, j4⟩ := addB f1 f2 b12 (by decide +kernel)
  have j4n := near_le j4
  have ba0 : ab a0 ≤ 101 / 100 := by rw [ab_le]; grind
  have ba1 : ab a1 ≤ 101 / 100 := by rw [ab_le]; grind
  have bam : ab am ≤ 101 / 100 := by rw [ab_le]; grind
  have ba2 : ab a2 ≤ 101 / 100 := by have := ab_le.1 b12; rw [ab_le]; grind
  obtain ⟨v0, w0, Y0, F0, k0⟩ := mul_ok hd ff0 bd ba0
  obtain ⟨v1, w1', Y1, F1, k1⟩ := mulSub_ok hd f1 ff0 bd ba1 ba0
  obtain ⟨v3, w3, Y3, F3, k3⟩ := mulSub2_ok hd f4 ffm bd ba2 bam
  obtain ⟨v4, w4, Y4, F4, k4⟩ := mul_ok hd ffm bd bam
  -- in numbers
  have g0 := ab_mul_le bd hn0
  have gm := ab_mul_le bd hnm
  have g1 := ab_mul_le bd hA1
  have h2 : ab (a2 - (A1 + S * K)) ≤ 18 * u32 := by rw [ab_le]; grind
  have g2 := ab_mul_le bd h2
  have h2s : ab (a2 - (a1 + sv * K)) ≤ 4 * u32 := by rw [ab_le]; grind
  have g2s := ab_le.1 (ab_mul_le bd h2s)
  have dsK : ab (K * dsv - dv * (sv * K)) ≤ 2 * u32 := by
    have t1 := near_le hs1
    have t2 := mul_le_mul_l t1.1 hK0
    have t3 := mul_le_mul_l t1.2 hK0
    have t5 := mul_le_mul_l hSK (Rat.le_of_lt hu)
    clear k0 k1 k3 k4 g0 gm g1 g2 g2s h2 h2s n0 nm n1 nk nk1 j4n
    rw [ab_le]; grind
  refine ⟨v0, v1, ds, v3, v4, w0, w1', dsv, w3, w4, ?_, F0, F1, f3, F3, F4, ?_, ?_, ?_, hs2, ?_, ?_, ?_⟩
  · intro n base W b
    have eK : (y - 1 - (z + 2)).toNat = K := by omega
    have eK2 : y - z - 3 = (K : Int) := by omega
    have hne : ¬ y = z + 2 := by omega
    rw [hh, Y0, Y4, eK, eK2]
    simp only [hne, if_false, X1, X2, X3, X4, X5, Y1, Y3, Option.bind_some]
    rw [bumps_append, bumps_two]
    have e2 : (fun b2 : Nat → Nat => bumps n base W (mids (z + 2) ds dsv K ++ [⟨y - 1, v3, w3⟩, ⟨y, v4, w4⟩]) b2) = fun b2 => (midLoop n base W ds K (z + 2) b2).bind fun b3 => (bump n base W (y - 1) (some v3) b3).bind fun b4 => bump n base W y (some v4) b4 := by
      funext b2
      rw [bumps_append, mids_loop n base W ds dsv]
      congr 1
      funext b3
      exact bumps_two _ _ _ _ _ _
    show _ = ((bump n base W z (some v0) b).bind fun b' => bump n base W (z + 1) (some v1) b').bind (fun b2 : Nat → Nat => bumps n base W (mids (z + 2) ds dsv K ++ [⟨y - 1, v3, w3⟩, ⟨y, v4, w4⟩]) b2)
    rw [e2, obind_assoc]
    congr 1
    funext b1
    rw [obind_assoc]
    congr 1
    funext b2
    rw [obind_assoc]
  · have := chain1 k0 g0; grind
  · have := chain3 k1 g1 g0; grind
  · have m0 := ab_le.1 k0
    have m1 := ab_le.1 k1
    have m2 := ab_le.1 g1
    clear k0 k1 k3 k4 g0 gm g1 g2 g2s h2 h2s n0 nm n1 nk nk1 j4n dsK hh hs1 hs2
    rw [ab_le]; grind
  · have := chain2 k3 g2 gm; grind
  · have := chain1 k4 gm; grind
  · have m0 := ab_le.1 k0
    have m1 := ab_le.1 k1
    have m3 := ab_le.1 k3
    have m4 := ab_le.1 k4
    have m5 := ab_le.1 dsK
    clear k0 k1 k3 k4 g0 gm g1 g2 h2 h2s n0 nm n1 nk nk1 j4n dsK hh hs1 hs2
    rw [ab_le]; grind

theorem far_row_mass {d x0 x1 : Nat} {z y : Int} {K : Nat} {dv S A0 A1 Am : Rat} {v0 v1 ds v3 v4 : Nat} {w0 w1 dsv w3 w4 : Rat} (H : FarWords d x0 x1 z y K dv S A0 A1 Am v0 v1 ds v3 v4 w0 w1 dsv w3 w4)
    (hS0 : 0 ≤ S) (hSK : S * K ≤ 1) (p0 : 0 ≤ A0) (p1 : 0 ≤ A1 - A0) (p3 : 0 ≤ 1 - (A1 + S * K) - Am) (p4 : 0 ≤ Am) :
    ab w0 + (ab w1 + 0) + (K * ab dsv + (ab w3 + (ab w4 + 0))) ≤ ab dv + 700 * u32 := by
  have hu := u32_pos
  have hK0 : (0 : Rat) ≤ K := by exact_mod_cast Nat.zero_le K
  have s0 := ab_share p0 H.k0
  have s1 := ab_share p1 H.k1
  have s2 := ab_share hS0 H.kd
  have s3 := ab_share p3 H.k3
  have s4 := ab_share p4 H.k4
  have t2 := mul_le_mul_l s2 hK0
  have t5 := mul_le_mul_l hSK (Rat.le_of_lt hu)
  have hdv := ab_nonneg dv
  clear H s2
  generalize ab w0 = a0 at *
  generalize ab w1 = a1 at *
  generalize ab dsv = a2 at *
  generalize ab w3 = a3 at *
  generalize ab w4 = a4 at *
  generalize ab dv = D at *
  grind

theorem far_row_part {d x0 x1 : Nat} {z y : Int} {K : Nat} {dv S A0 A1 Am a c : Rat} {v0 v1 ds v3 v4 : Nat} {w0 w1 dsv w3 w4 : Rat} (H : FarWords d x0 x1 z y K dv S A0 A1 Am v0 v1 ds v3 v4 w0 w1 dsv w3 w4)
    (hS0 : 0 ≤ S) (hSK : S * K ≤ 1) (hy : z + 3 + (K : Int) = y) (th : Int)
    (M : (th < z → mean (a - th) (c - th) = 1) ∧ (th = z → 1 - mean (a - th) (c - th) = A0) ∧
    (z + 1 ≤ th → th + 2 ≤ y → 1 - mean (a - th) (c - th) = A1 + S * (th - z - 1)) ∧
    (th + 1 = y → mean (a - th) (c - th) = Am) ∧ (y ≤ th → mean (a - th) (c - th) = 0)) :
    ab ((if z ≤ th then w0 else 0) + ((if z + 1 ≤ th then w1 else 0) + 0) + (upto th (mids (z + 2) ds dsv K) + ((if y - 1 ≤ th then w3 else 0) + ((if y ≤ th then w4 else 0) + 0))) - dv * (1 - mean (a - th) (c - th))) ≤ 300 * u32 := by
  have hu := u32_pos
  have hK0 : (0 : Rat) ≤ K := by exact_mod_cast Nat.zero_le K
  obtain ⟨m1, m2, m3, m4, m5⟩ := M
  obtain ⟨u1, u2, u3⟩ := mids_upto (z + 2) ds dsv th K
  have k0 := ab_le.1 H.k0
  have k01 := ab_le.1 H.k01
  have k4 := ab_le.1 H.k4
  have kall := ab_le.1 H.kall
  have hkd := near_le H.kd
  clear H
  generalize mean (a - th) (c - th) = mm at *
  by_cases c1 : th < z
  · rw [if_neg (by omega), if_neg (by omega), if_neg (by omega), if_neg (by omega), u1 (by omega), m1 c1, ab_le]
    clear m1 m2 m3 m4 m5 u1 u2 u3 hkd; grind
  · by_cases c2 : th = z
    · have e := m2 c2
      rw [if_pos (by omega), if_neg (by omega), if_neg (by omega), if_neg (by omega), u1 (by omega), e, ab_le]
      clear m1 m2 m3 m4 m5 u1 u2 u3 hkd; grind
    · by_cases c3 : th + 2 ≤ y
      · obtain ⟨j, hj⟩ := Int.le.dest (show z + 1 ≤ th by omega)
        have hjq : (th : Rat) = z + 1 + j := by rw [← hj, Rat.intCast_add, Rat.intCast_add, Rat.intCast_natCast]; rfl
        have hj0 : (0 : Rat) ≤ j := by exact_mod_cast Nat.zero_le j
        have hjK : (j : Rat) ≤ K := by exact_mod_cast (show j ≤ K by omega)
        have e := m3 (by omega) c3
        rw [show (th : Rat) - z - 1 = j by grind] at e
        have t2 := mul_le_mul_l hkd.1 hj0
        have t3 := mul_le_mul_l hkd.2 hj0
        have t4 := mul_le_mul_l hjK hS0
        have t5 := mul_le_mul_l (show S * j ≤ 1 by grind) (Rat.le_of_lt hu)
        rw [if_pos (by omega), if_pos (by omega), if_neg (by omega), if_neg (by omega), u2 j (by omega) (by omega), e, ab_le]
        clear m1 m2 m3 m4 m5 u1 u2 u3 hkd hjq t4; grind
      · by_cases c4 : th + 1 = y
        · rw [if_pos (by omega), if_pos (by omega), if_pos (by omega), if_neg (by omega), u3 (by omega), m4 c4, ab_le]
          clear m1 m2 m3 m4 m5 u1 u2 u3 hkd; grind
        · rw [if_pos (by omega), if_pos (by omega), if_pos (by omega), if_pos (by omega), u3 (by omega), m5 (by omega), ab_le]
          clear m1 m2 m3 m4 m5 u1 u2 u3 hkd; grind

set_option maxHeartbeats 1000000 in
theorem far_more {x0 x1 d : Nat} {dv a c S : Rat} {z y : Int} {sw fw a0w amw : Nat} {sv fv a0 am : Rat} (H : FarHead x0 x1 z y a c S sw fw a0w amw sv fv a0 am) (hd : F32 d dv) (bd : ab dv ≤ 101 / 100)
    (ba : ab a ≤ 130) (bc : ab c ≤ 130) (hz0 : (z : Rat) ≤ a) (hz1 : a < z + 1) (hy0 : (y : Rat) - 1 < c) (hy1 : c ≤ y) (hS : S * (c - a) = 1) (hS0 : 0 ≤ S) (hy : z + 3 ≤ y) :
    ∃ L, RowOk dv a c L ∧ ∀ n base W b, rowFar n base W z y d x0 x1 b = bumps n base W L b := by
  have hu := u32_pos
  have ba' := ab_le.1 ba
  have bc' := ab_le.1 bc
  obtain ⟨K, hK⟩ := Int.le.dest hy
  have hKq : (y : Rat) = z + 3 + K := by rw [← hK, Rat.intCast_add, Rat.intCast_add, Rat.intCast_natCast]; rfl
  have hK0 : (0 : Rat) ≤ K := by exact_mod_cast Nat.zero_le K
  obtain ⟨b1, b2, b3, b4⟩ := A_bounds hz0 hz1 hy0 hy1 (by grind) hS hS0
  have M := far_mean hz0 hz1 hy0 hy1 (by omega) hS
  have hcS : S * (c - a) = S * ((1 - (a - z)) + 1 + K + (c - y + 1)) := by rw [hKq]; grind
  rw [hS] at hcS
  have ho0 : 0 ≤ 1 - (a - z) := by grind
  have ho1 : 1 - (a - z) ≤ 1 := by grind
  have he0 : 0 ≤ c - y + 1 := by grind
  have he1 : c - y + 1 ≤ 1 := by grind
  have hSo := mul_nn hS0 ho0
  have hSe := mul_nn hS0 he0
  have hSK := mul_nn hS0 hK0
  have hS1 : S ≤ 1 := by grind
  have p1 : 0 ≤ S * ((1 - (a - z)) + 1 / 2) - S * ((1 - (a - z)) * (1 - (a - z))) / 2 := by
    have := mul_nn hSo (show 0 ≤ 1 - (1 - (a - z)) / 2 by grind)
    grind
  have p3 : 0 ≤ 1 - (S * ((1 - (a - z)) + 1 / 2) + S * K) - S * ((c - y + 1) * (c - y + 1)) / 2 := by
    have := mul_nn hSe (show 0 ≤ 1 - (c - y + 1) / 2 by grind)
    grind
  have hSmin : 1 ≤ 260 * S := by
    have := mul_le_mul_l (show c - a ≤ 260 by grind) hS0
    grind
  have hK300 : (K : Rat) ≤ 300 := by grind
  have eA1 : ∀ th : Int, S * (th - a + 1 / 2) = S * ((1 - (a - z)) + 1 / 2) + S * (th - z - 1) := by intro th; grind
  obtain ⟨v0, v1, ds, v3, v4, w0, w1, dsv, w3, w4, Fw⟩ := far_words H hd bd hS0 hS1 hSmin (by grind) hK300 ho0 ho1 hK rfl rfl rfl b1 (by grind) (by grind) b3 (by grind) (by grind)
  clear H
  refine ⟨_, ⟨?_, ?_, ?_, ?_, ?_⟩, Fw.prog⟩
  · intro p hp
    simp only [List.mem_append, List.mem_cons, List.not_mem_nil, or_false] at hp
    rcases hp with (rfl | rfl) | hp | rfl | rfl
    · exact Fw.f0
    · exact Fw.f1
    · unfold mids at hp
      rw [List.mem_map] at hp
      obtain ⟨i, _, rfl⟩ := hp
      exact Fw.fd
    · exact Fw.f3
    · exact Fw.f4
  · rw [mass_append, mass_append, mids_mass]
    exact far_row_mass Fw hS0 (by grind) b1 p1 p3 b3
  · simp only [List.length_append, List.length_cons, List.length_nil, mids_length]
    push_cast
    grind
  · intro th
    rw [upto_append, upto_append]
    refine far_row_part Fw hS0 (by grind) hK th ?_
    obtain ⟨m1, m2, m3, m4, m5⟩ := M th
    rw [eA1] at m3
    exact ⟨m1, m2, m3, m4, m5⟩
  · rw [all_append, all_append, mids_all]
    show ab (w0 + (w1 + 0) + (K * dsv + (w3 + (w4 + 0))) - dv) ≤ _
    have k := Fw.kall
    rw [show w0 + (w1 + 0) + (K * dsv + (w3 + (w4 + 0))) - dv = w0 + w1 + K * dsv + w3 + w4 - dv by grind]
    grind
end Go.Proofs.Ytmgcbodlolnheaa
