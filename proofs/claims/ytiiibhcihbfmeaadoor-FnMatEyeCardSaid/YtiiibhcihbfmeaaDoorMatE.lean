/- Proved: the law of the unit matrix, of what is printed of it. Its arguments are words of 64 bits. -/
import Derived.Test.YtiiibhcihbfmeaaDoorGrid
import Derived.Test.YtiiibhcihbfmeaaDoorScaled
import Derived.Test.YtiiibhcihbfmeaaDoorFltInt
namespace Go.Proofs.YtiiibhcihbfmeaaDoor.Wk
open Go.Vm
set_option linter.unusedVariables false
set_option linter.unusedSimpArgs false
def okM (m : TImpl_Mat) : Bool := Flt.okF Flt.K10 m.e0 && (Flt.okF Flt.K10 m.e1 && (Flt.okF Flt.K10 m.e2 && (Flt.okF Flt.K10 m.e3 && (Flt.okF Flt.K10 m.e4 && (Flt.okF Flt.K10 m.e5 && (Flt.okF Flt.K10 m.e6 && (Flt.okF Flt.K10 m.e7 && (Flt.okF Flt.K10 m.e8))))))))
def okV (p : TImpl_P3) : Bool := Flt.okF Flt.K10 p.X && (Flt.okF Flt.K10 p.Y && Flt.okF Flt.K10 p.Z)
theorem entries_p {F : Nat} (hF : 1073741826 ≤ F) (l : List TImpl_Mat) (hp : l.length < 1000) : p_entries F l = some (l.all okM) := by
  unfold p_entries
  have outer : iter (p_entries_l2 l F) F (0 : Int) = some (if l.all okM = true then Sum.inl () else Sum.inr false) := by
    refine scan_loop0 l _ _ _ (fun K k hk => ?_) (fun K k x hx => ?_) (by omega)
    · unfold p_entries_l2; rw [cond_f (decide_eq_false (by omega))]
    · have hk := (List.getElem?_eq_some_iff.1 hx).1
      unfold p_entries_l2
      have hg : p_Grid F [[x.e0, x.e1, x.e2, x.e3, x.e4, x.e5, x.e6, x.e7, x.e8]] 9 (4652218415073722368 : Nat) = some (okM x) := by
        rw [grid_p (by simp; omega) (by simp; omega) (by simp) (by simp)]
        simp [gridB, rowB, Flt.K10, okM, Bool.and_assoc]
      rw [cond_t (decide_eq_true (by omega)), idx_get hx, Option.bind_some, need_pos (by rfl), hg, Option.bind_some]
      simp only [succ_cast]
      cases hc : okM x with
      | false => rfl
      | true => rw [cond_f (show (!true) = false from rfl), need_pos (in64 (by omega) (by omega))]; rfl
  rw [outer, Option.bind_some]
  split
  · rename_i h; rw [h]; rfl
  · rename_i h
    have : l.all okM = false := by simpa using h
    rw [this]; rfl
theorem small3_p {F : Nat} (hF : 1073741826 ≤ F) (l : List TImpl_P3) (hp : l.length < 1000) : p_small3 F l = some (l.all okV) := by
  unfold p_small3
  have outer : iter (p_small3_l2 l F) F (0 : Int) = some (if l.all okV = true then Sum.inl () else Sum.inr false) := by
    refine scan_loop0 l _ _ _ (fun K k hk => ?_) (fun K k x hx => ?_) (by omega)
    · unfold p_small3_l2; rw [cond_f (decide_eq_false (by omega))]
    · have hk := (List.getElem?_eq_some_iff.1 hx).1
      unfold p_small3_l2
      have hg : p_Grid F [[x.X, x.Y, x.Z]] 3 (4652218415073722368 : Nat) = some (okV x) := by
        rw [grid_p (by simp; omega) (by simp; omega) (by simp) (by simp)]
        simp [gridB, rowB, Flt.K10, okV, Bool.and_assoc]
      rw [cond_t (decide_eq_true (by omega)), idx_get hx, Option.bind_some]
      simp only [p_off3, Option.bind_some, hg, succ_cast]
      cases hc : okV x with
      | false => rfl
      | true => rw [cond_f (show (!true) = false from rfl), need_pos (in64 (by omega) (by omega))]; rfl
  rw [outer, Option.bind_some]
  split
  · rename_i h; rw [h]; rfl
  · rename_i h
    have : l.all okV = false := by simpa using h
    rw [this]; rfl
theorem mul20 {f m : Int} (hf : -1024 ≤ f ∧ f ≤ 1024) (hm : -1024 ≤ m ∧ m ≤ 1024) : -1048576 ≤ f * m ∧ f * m ≤ 1048576 := by
  have h1 : (f + 1024) * (m + 1024) ≥ 0 := Int.mul_nonneg (by omega) (by omega)
  have h2 : (1024 - f) * (1024 - m) ≥ 0 := Int.mul_nonneg (by omega) (by omega)
  have h3 : (f + 1024) * (1024 - m) ≥ 0 := Int.mul_nonneg (by omega) (by omega)
  have h4 : (1024 - f) * (m + 1024) ≥ 0 := Int.mul_nonneg (by omega) (by omega)
  simp only [Int.add_mul, Int.mul_add, Int.sub_mul, Int.mul_sub] at h1 h2 h3 h4
  omega
/-- a number that is whole and within the bound -/
def W (x : Nat) (n : Int) : Prop := Flt.I x n ∧ -1024 ≤ n ∧ n ≤ 1024
theorem W_of {x : Nat} (h : Flt.okF Flt.K10 x = true) : ∃ n, W x n := by
  obtain ⟨n, h1, h2, h3⟩ := Flt.okF_K10 h
  exact ⟨n, h1, h2, h3⟩
theorem dot3_p {x1 y1 x2 y2 x3 y3 : Nat} {a1 b1 a2 b2 a3 b3 : Int} (h1 : W x1 a1) (g1 : W y1 b1) (h2 : W x2 a2) (g2 : W y2 b2) (h3 : W x3 a3) (g3 : W y3 b3) :
    ∃ u v s t r, floatBits .mul .f64 x1 y1 = some u ∧ floatBits .mul .f64 x2 y2 = some v ∧ floatBits .add .f64 u v = some s ∧ floatBits .mul .f64 x3 y3 = some t ∧ floatBits .add .f64 s t = some r ∧ Flt.I r (a1 * b1 + a2 * b2 + a3 * b3) := by
  have k1 := mul20 h1.2 g1.2
  have k2 := mul20 h2.2 g2.2
  have k3 := mul20 h3.2 g3.2
  obtain ⟨u, e1, i1⟩ := Flt.mul_int h1.1 g1.1 (by omega)
  obtain ⟨v, e2, i2⟩ := Flt.mul_int h2.1 g2.1 (by omega)
  obtain ⟨s, e3, i3⟩ := Flt.add_int i1 i2 (by omega)
  obtain ⟨t, e4, i4⟩ := Flt.mul_int h3.1 g3.1 (by omega)
  obtain ⟨r, e5, i5⟩ := Flt.add_int i3 i4 (by omega)
  exact ⟨u, v, s, t, r, e1, e2, e3, e4, e5, i5⟩
theorem at00 (m : TR3_Mat) : p_Mat_At m (0 : Int) (0 : Int) = some m.data.e0 := by rfl
theorem at01 (m : TR3_Mat) : p_Mat_At m (0 : Int) (1 : Int) = some m.data.e1 := by rfl
theorem at02 (m : TR3_Mat) : p_Mat_At m (0 : Int) (2 : Int) = some m.data.e2 := by rfl
theorem at10 (m : TR3_Mat) : p_Mat_At m (1 : Int) (0 : Int) = some m.data.e3 := by rfl
theorem at11 (m : TR3_Mat) : p_Mat_At m (1 : Int) (1 : Int) = some m.data.e4 := by rfl
theorem at12 (m : TR3_Mat) : p_Mat_At m (1 : Int) (2 : Int) = some m.data.e5 := by rfl
theorem at20 (m : TR3_Mat) : p_Mat_At m (2 : Int) (0 : Int) = some m.data.e6 := by rfl
theorem at21 (m : TR3_Mat) : p_Mat_At m (2 : Int) (1 : Int) = some m.data.e7 := by rfl
theorem at22 (m : TR3_Mat) : p_Mat_At m (2 : Int) (2 : Int) = some m.data.e8 := by rfl
theorem mat_p (a : TImpl_Mat) : p_mat a = some ⟨a⟩ := by rfl
def WM (m : TImpl_Mat) (a0 a1 a2 a3 a4 a5 a6 a7 a8 : Int) : Prop := W m.e0 a0 ∧ W m.e1 a1 ∧ W m.e2 a2 ∧ W m.e3 a3 ∧ W m.e4 a4 ∧ W m.e5 a5 ∧ W m.e6 a6 ∧ W m.e7 a7 ∧ W m.e8 a8
theorem WM_of {m : TImpl_Mat} (h : okM m = true) : ∃ a0 a1 a2 a3 a4 a5 a6 a7 a8, WM m a0 a1 a2 a3 a4 a5 a6 a7 a8 := by
  simp only [okM, Bool.and_eq_true] at h
  obtain ⟨h0, h1, h2, h3, h4, h5, h6, h7, h8⟩ := h
  obtain ⟨a0, k0⟩ := W_of h0
  obtain ⟨a1, k1⟩ := W_of h1
  obtain ⟨a2, k2⟩ := W_of h2
  obtain ⟨a3, k3⟩ := W_of h3
  obtain ⟨a4, k4⟩ := W_of h4
  obtain ⟨a5, k5⟩ := W_of h5
  obtain ⟨a6, k6⟩ := W_of h6
  obtain ⟨a7, k7⟩ := W_of h7
  obtain ⟨a8, k8⟩ := W_of h8
  exact ⟨a0, a1, a2, a3, a4, a5, a6, a7, a8, k0, k1, k2, k3, k4, k5, k6, k7, k8⟩
theorem bind_of {α β : Type} {x : Option α} {a : α} {f : α → Option β} {r : Option β} (h : x = some a) (k : f a = r) : x.bind f = r := by rw [h]; exact k
theorem mul_p {a b : TImpl_Mat} {a0 a1 a2 a3 a4 a5 a6 a7 a8 b0 b1 b2 b3 b4 b5 b6 b7 b8 : Int} (ha : WM a a0 a1 a2 a3 a4 a5 a6 a7 a8) (hb : WM b b0 b1 b2 b3 b4 b5 b6 b7 b8) :
    ∃ c, p_MatMul a b = some c ∧ Flt.I c.e0 (a0 * b0 + a1 * b3 + a2 * b6) ∧ Flt.I c.e1 (a0 * b1 + a1 * b4 + a2 * b7) ∧ Flt.I c.e2 (a0 * b2 + a1 * b5 + a2 * b8) ∧ Flt.I c.e3 (a3 * b0 + a4 * b3 + a5 * b6) ∧ Flt.I c.e4 (a3 * b1 + a4 * b4 + a5 * b7) ∧ Flt.I c.e5 (a3 * b2 + a4 * b5 + a5 * b8) ∧ Flt.I c.e6 (a6 * b0 + a7 * b3 + a8 * b6) ∧ Flt.I c.e7 (a6 * b1 + a7 * b4 + a8 * b7) ∧ Flt.I c.e8 (a6 * b2 + a7 * b5 + a8 * b8) := by
  obtain ⟨h0, h1, h2, h3, h4, h5, h6, h7, h8⟩ := ha
  obtain ⟨g0, g1, g2, g3, g4, g5, g6, g7, g8⟩ := hb
  obtain ⟨u0, v0, s0, t0, r0, p0, q0, l0, m0, n0, z0⟩ := dot3_p h0 g0 h1 g3 h2 g6
  obtain ⟨u1, v1, s1, t1, r1, p1, q1, l1, m1, n1, z1⟩ := dot3_p h0 g1 h1 g4 h2 g7
  obtain ⟨u2, v2, s2, t2, r2, p2, q2, l2, m2, n2, z2⟩ := dot3_p h0 g2 h1 g5 h2 g8
  obtain ⟨u3, v3, s3, t3, r3, p3, q3, l3, m3, n3, z3⟩ := dot3_p h3 g0 h4 g3 h5 g6
  obtain ⟨u4, v4, s4, t4, r4, p4, q4, l4, m4, n4, z4⟩ := dot3_p h3 g1 h4 g4 h5 g7
  obtain ⟨u5, v5, s5, t5, r5, p5, q5, l5, m5, n5, z5⟩ := dot3_p h3 g2 h4 g5 h5 g8
  obtain ⟨u6, v6, s6, t6, r6, p6, q6, l6, m6, n6, z6⟩ := dot3_p h6 g0 h7 g3 h8 g6
  obtain ⟨u7, v7, s7, t7, r7, p7, q7, l7, m7, n7, z7⟩ := dot3_p h6 g1 h7 g4 h8 g7
  obtain ⟨u8, v8, s8, t8, r8, p8, q8, l8, m8, n8, z8⟩ := dot3_p h6 g2 h7 g5 h8 g8
  refine ⟨⟨r0, r1, r2, r3, r4, r5, r6, r7, r8⟩, ?_, z0, z1, z2, z3, z4, z5, z6, z7, z8⟩
  unfold p_MatMul
  refine bind_of (mat_p a) ?_
  refine bind_of (mat_p b) ?_
  refine bind_of (at00 _) ?_
  refine bind_of (at00 _) ?_
  refine bind_of (at01 _) ?_
  refine bind_of (at01 _) ?_
  refine bind_of (at02 _) ?_
  refine bind_of (at02 _) ?_
  refine bind_of (at10 _) ?_
  refine bind_of (at10 _) ?_
  refine bind_of (at11 _) ?_
  refine bind_of (at11 _) ?_
  refine bind_of (at12 _) ?_
  refine bind_of (at12 _) ?_
  refine bind_of (at20 _) ?_
  refine bind_of (at20 _) ?_
  refine bind_of (at21 _) ?_
  refine bind_of (at21 _) ?_
  refine bind_of (at22 _) ?_
  refine bind_of (at22 _) ?_
  refine bind_of p0 ?_
  refine bind_of q0 ?_
  refine bind_of l0 ?_
  refine bind_of m0 ?_
  refine bind_of n0 ?_
  refine bind_of p1 ?_
  refine bind_of q1 ?_
  refine bind_of l1 ?_
  refine bind_of m1 ?_
  refine bind_of n1 ?_
  refine bind_of p2 ?_
  refine bind_of q2 ?_
  refine bind_of l2 ?_
  refine bind_of m2 ?_
  refine bind_of n2 ?_
  refine bind_of p3 ?_
  refine bind_of q3 ?_
  refine bind_of l3 ?_
  refine bind_of m3 ?_
  refine bind_of n3 ?_
  refine bind_of p4 ?_
  refine bind_of q4 ?_
  refine bind_of l4 ?_
  refine bind_of m4 ?_
  refine bind_of n4 ?_
  refine bind_of p5 ?_
  refine bind_of q5 ?_
  refine bind_of l5 ?_
  refine bind_of m5 ?_
  refine bind_of n5 ?_
  refine bind_of p6 ?_
  refine bind_of q6 ?_
  refine bind_of l6 ?_
  refine bind_of m6 ?_
  refine bind_of n6 ?_
  refine bind_of p7 ?_
  refine bind_of q7 ?_
  refine bind_of l7 ?_
  refine bind_of m7 ?_
  refine bind_of n7 ?_
  refine bind_of p8 ?_
  refine bind_of q8 ?_
  refine bind_of l8 ?_
  refine bind_of m8 ?_
  refine bind_of n8 ?_
  rfl
theorem vec_p {a : TImpl_Mat} {v : TImpl_P3} {a0 a1 a2 a3 a4 a5 a6 a7 a8 x y z : Int} (ha : WM a a0 a1 a2 a3 a4 a5 a6 a7 a8) (hx : W v.X x) (hy : W v.Y y) (hz : W v.Z z) :
    ∃ c, p_MatVec a v = some c ∧ Flt.I c.X (x * a0 + y * a1 + z * a2) ∧ Flt.I c.Y (x * a3 + y * a4 + z * a5) ∧ Flt.I c.Z (x * a6 + y * a7 + z * a8) := by
  obtain ⟨h0, h1, h2, h3, h4, h5, h6, h7, h8⟩ := ha
  obtain ⟨u0, v0, s0, t0, r0, p0, q0, l0, m0, n0, z0⟩ := dot3_p hx h0 hy h1 hz h2
  obtain ⟨u1, v1, s1, t1, r1, p1, q1, l1, m1, n1, z1⟩ := dot3_p hx h3 hy h4 hz h5
  obtain ⟨u2, v2, s2, t2, r2, p2, q2, l2, m2, n2, z2⟩ := dot3_p hx h6 hy h7 hz h8
  refine ⟨⟨r0, r1, r2⟩, ?_, z0, z1, z2⟩
  simp only [p_MatVec, p_Mat_MulVec, p_vec3, p_plainP3, mat_p, Option.bind_some, at00, at01, at02, at10, at11, at12, at20, at21, at22, p0, q0, l0, m0, n0, p1, q1, l1, m1, n1, p2, q2, l2, m2, n2]
theorem W1 : W 4607182418800017408 1 := ⟨by
  have e : (4607182418800017408 : Nat) = ofInt 1 := by decide +kernel
  rw [e]; exact Flt.ofInt_int (by decide), by omega, by omega⟩
theorem W0 : W 0 0 := ⟨by
  have e : (0 : Nat) = ofInt 0 := by decide +kernel
  rw [e]; exact Flt.ofInt_int (by decide), by omega, by omega⟩
theorem eye_p : p_MatEye = some ⟨4607182418800017408, 0, 0, 0, 4607182418800017408, 0, 0, 0, 4607182418800017408⟩ := by rfl
theorem feqs {x y : Nat} {m n : Int} (hx : Flt.I x m) (hy : Flt.I y n) (h : m = n) : feq x y = true := by
  rw [Flt.feq_int hx hy]; exact decide_eq_true h
theorem law_eye {F : Nat} (hF : 1073741826 ≤ F) (a : TImpl_Mat) (v : TImpl_P3) : p_FnMatEye F a v = some true := by
  unfold p_FnMatEye
  rw [entries_p hF _ (by simp), Option.bind_some]
  cases h1 : [a].all okM with
  | false => rfl
  | true =>
    rw [cond_f (show (!true) = false from rfl), small3_p hF _ (by simp), Option.bind_some]
    cases h2 : [v].all okV with
    | false => rfl
    | true =>
      simp only [List.all_cons, List.all_nil, Bool.and_true] at h1 h2
      obtain ⟨a0, a1, a2, a3, a4, a5, a6, a7, a8, ha⟩ := WM_of h1
      simp only [okV, Bool.and_eq_true] at h2
      obtain ⟨h2, h3, h4⟩ := h2
      obtain ⟨x, hx⟩ := W_of h2
      obtain ⟨y, hy⟩ := W_of h3
      obtain ⟨z, hz⟩ := W_of h4
      have he : WM ⟨4607182418800017408, 0, 0, 0, 4607182418800017408, 0, 0, 0, 4607182418800017408⟩ 1 0 0 0 1 0 0 0 1 := ⟨W1, W0, W0, W0, W1, W0, W0, W0, W1⟩
      obtain ⟨c, hc, c0, c1, c2, c3, c4, c5, c6, c7, c8⟩ := mul_p he ha
      obtain ⟨d, hd, d0, d1, d2, d3, d4, d5, d6, d7, d8⟩ := mul_p ha he
      obtain ⟨q, hq, r0, r1, r2⟩ := vec_p he hx hy hz
      obtain ⟨k0, k1, k2, k3, k4, k5, k6, k7, k8⟩ := ha
      unfold p_FnMatEye_k1
      have e1 := feqs W1.1 W1.1 rfl
      have e0 := feqs W0.1 W0.1 rfl
      have f0 := feqs c0 k0.1 (by omega)
      have f1 := feqs c1 k1.1 (by omega)
      have f2 := feqs c2 k2.1 (by omega)
      have f3 := feqs c3 k3.1 (by omega)
      have f4 := feqs c4 k4.1 (by omega)
      have f5 := feqs c5 k5.1 (by omega)
      have f6 := feqs c6 k6.1 (by omega)
      have f7 := feqs c7 k7.1 (by omega)
      have f8 := feqs c8 k8.1 (by omega)
      have g0 := feqs d0 k0.1 (by omega)
      have g1 := feqs d1 k1.1 (by omega)
      have g2 := feqs d2 k2.1 (by omega)
      have g3 := feqs d3 k3.1 (by omega)
      have g4 := feqs d4 k4.1 (by omega)
      have g5 := feqs d5 k5.1 (by omega)
      have g6 := feqs d6 k6.1 (by omega)
      have g7 := feqs d7 k7.1 (by omega)
      have g8 := feqs d8 k8.1 (by omega)
      have v0 := feqs r0 hx.1 (by omega)
      have v1 := feqs r1 hy.1 (by omega)
      have v2 := feqs r2 hz.1 (by omega)
      simp only [eye_p, hc, hd, hq, Option.bind_some, e1, e0, f0, f1, f2, f3, f4, f5, f6, f7, f8, g0, g1, g2, g3, g4, g5, g6, g7, g8, v0, v1, v2, Bool.and_true]
      rfl
end Go.Proofs.YtiiibhcihbfmeaaDoor.Wk
