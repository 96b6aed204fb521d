/- Proved: plain texts of a law, joined. -/
import Derived.Test.YtjhdpnjlphpboaaDoorLibC
import Derived.Test.YtjhdpnjlphpboaaDoorPWt
import Derived.Test.YtjhdpnjlphpboaaDoorWWt
set_option linter.unusedVariables false
set_option linter.unusedSimpArgs false
namespace Go.Proofs.YtjhdpnjlphpboaaDoor.Wk
open Go.Vm
/-- The same, without an exit. -/
theorem fold_all {α σ St V T : Type} (L : List α) (b : (St → Option (Sum V T)) → St → Option (Sum V T)) (mk : Nat → σ → St) (step : σ → α → σ) (out : σ → V) (Inv : Nat → σ → Prop)
  (hend : ∀ K s, Inv L.length s → b K (mk L.length s) = some (.inl (out s)))
  (hstep : ∀ K i x s, L[i]? = some x → Inv i s → b K (mk i s) = K (mk (i + 1) (step s x)))
  (hinv : ∀ i x s, L[i]? = some x → Inv i s → Inv (i + 1) (step s x)) :
  ∀ (F i : Nat) (s : σ), L.length - i < F → i ≤ L.length → Inv i s → iter b F (mk i s) = some (.inl (out ((L.drop i).foldl step s))) := by
 intro F
 induction F with
 | zero => intro i s h; omega
 | succ F ih =>
  intro i s h hi hs
  show b (iter b F) (mk i s) = _
  by_cases hk : i < L.length
  ·have hx : L[i]? = some L[i] := List.getElem?_eq_getElem hk
   rw [hstep _ i _ s hx hs, List.drop_eq_getElem_cons hk, List.foldl_cons]
   exact ih (i + 1) _ (by omega) (by omega) (hinv i _ s hx hs)
  ·have : i = L.length := by omega
   subst this
   rw [hend _ s hs, List.drop_length]; rfl
end Go.Proofs.YtjhdpnjlphpboaaDoor.Wk

set_option linter.unusedVariables false
set_option linter.unusedSimpArgs false
namespace Go.Proofs.YtjhdpnjlphpboaaDoor.Wk
open Go.Vm
/-- All are bytes. -/
def AllB (l : List Int) : Prop := ∀ z, z ∈ l → 0 ≤ z ∧ z ≤ 255
def val (l : List Int) : Int := l.foldl (fun a x => a * 256 + x) 0
theorem wu64 {z : Int} (h1 : 0 ≤ z) (h2 : z < 18446744073709551616) : IntKind.u64.wrap z = z := wrap_in .u64 z (by simp only [lo]; omega) (by simp only [hi]; omega)
theorem wu32 {z : Int} (h1 : 0 ≤ z) (h2 : z < 4294967296) : IntKind.u32.wrap z = z := wrap_in .u32 z (by simp only [lo]; omega) (by simp only [hi]; omega)
theorem wi64 {z : Int} (h1 : 0 ≤ z) (h2 : z < 9223372036854775808) : IntKind.i64.wrap z = z := wrap_in .i64 z (by simp only [lo]; omega) (by simp only [hi]; omega)
theorem or_nat {A B n : Nat} (h : A < 2 ^ n) : A ||| B * 2 ^ n = A + B * 2 ^ n := by
 have := Nat.two_pow_add_eq_or_of_lt (i := n) (b := A) h B
 rw [Nat.mul_comm (2 ^ n) B] at this
 rw [Nat.or_comm, ← this, Nat.add_comm]
theorem bor64 {a c : Nat} (ha : a < 18446744073709551616) (hc : c < 18446744073709551616) : bits .or .u64 (a : Int) (c : Int) = ((a ||| c : Nat) : Int) := by
 unfold bits
 have e0 : (BitVec.ofInt 64 (a : Int) ||| BitVec.ofInt 64 (c : Int)).toNat = a ||| c := by
  rw [BitVec.toNat_or, BitVec.toNat_ofInt, BitVec.toNat_ofInt]
  have e : ∀ z : Nat, z < 18446744073709551616 → ((z : Int) % ((2 ^ 64 : Nat) : Int)).toNat = z := fun z hz => by omega
  rw [e a ha, e c hc]
 show IntKind.u64.wrap (((BitVec.ofInt 64 (a : Int) ||| BitVec.ofInt 64 (c : Int)).toNat : Nat) : Int) = _
 rw [e0]
 have hlt : a ||| c < 2 ^ 64 := Nat.or_lt_two_pow (by omega) (by omega)
 exact wu64 (by omega) (by omega)
theorem bor32 {a c : Nat} (ha : a < 4294967296) (hc : c < 4294967296) : bits .or .u32 (a : Int) (c : Int) = ((a ||| c : Nat) : Int) := by
 unfold bits
 have e0 : (BitVec.ofInt 32 (a : Int) ||| BitVec.ofInt 32 (c : Int)).toNat = a ||| c := by
  rw [BitVec.toNat_or, BitVec.toNat_ofInt, BitVec.toNat_ofInt]
  have e : ∀ z : Nat, z < 4294967296 → ((z : Int) % ((2 ^ 32 : Nat) : Int)).toNat = z := fun z hz => by omega
  rw [e a ha, e c hc]
 show IntKind.u32.wrap (((BitVec.ofInt 32 (a : Int) ||| BitVec.ofInt 32 (c : Int)).toNat : Nat) : Int) = _
 rw [e0]
 have hlt : a ||| c < 2 ^ 32 := Nat.or_lt_two_pow (by omega) (by omega)
 exact wu32 (by omega) (by omega)
/-- One byte more, above those that are there. -/
theorem orb64 {a x : Int} (n : Nat) (hn : n ≤ 56) (h0 : 0 ≤ a) (h1 : a < 2 ^ n) (hx : 0 ≤ x ∧ x ≤ 255) : bits .or .u64 a (IntKind.u64.wrap (IntKind.u64.wrap x * 2 ^ n)) = a + x * 2 ^ n := by
 obtain ⟨A, rfl⟩ := Int.eq_ofNat_of_zero_le h0
 obtain ⟨X, rfl⟩ := Int.eq_ofNat_of_zero_le hx.1
 have hp : (2 : Nat) ^ n ≤ 2 ^ 56 := Nat.pow_le_pow_right (by omega) hn
 have hp2 : ((2 : Int) ^ n) = ((2 ^ n : Nat) : Int) := by norm_cast
 have hA : A < 2 ^ n := by rw [hp2] at h1; exact_mod_cast h1
 have hm : X * 2 ^ n ≤ 255 * 2 ^ 56 := Nat.mul_le_mul (by omega) hp
 have e1 : ((X : Int) * 2 ^ n) = ((X * 2 ^ n : Nat) : Int) := by push_cast; rfl
 rw [wu64 (z := (X : Int)) (by omega) (by omega), e1, wu64 (z := ((X * 2 ^ n : Nat) : Int)) (by omega) (by omega), bor64 (by omega) (by omega), or_nat hA]
 exact Int.natCast_add _ _
theorem orb32 {a x : Int} (n : Nat) (hn : n ≤ 24) (h0 : 0 ≤ a) (h1 : a < 2 ^ n) (hx : 0 ≤ x ∧ x ≤ 255) : bits .or .u32 a (IntKind.u32.wrap (IntKind.u32.wrap x * 2 ^ n)) = a + x * 2 ^ n := by
 obtain ⟨A, rfl⟩ := Int.eq_ofNat_of_zero_le h0
 obtain ⟨X, rfl⟩ := Int.eq_ofNat_of_zero_le hx.1
 have hp : (2 : Nat) ^ n ≤ 2 ^ 24 := Nat.pow_le_pow_right (by omega) hn
 have hp2 : ((2 : Int) ^ n) = ((2 ^ n : Nat) : Int) := by norm_cast
 have hA : A < 2 ^ n := by rw [hp2] at h1; exact_mod_cast h1
 have hm : X * 2 ^ n ≤ 255 * 2 ^ 24 := Nat.mul_le_mul (by omega) hp
 have e1 : ((X : Int) * 2 ^ n) = ((X * 2 ^ n : Nat) : Int) := by push_cast; rfl
 rw [wu32 (z := (X : Int)) (by omega) (by omega), e1, wu32 (z := ((X * 2 ^ n : Nat) : Int)) (by omega) (by omega), bor32 (by omega) (by omega), or_nat hA]
 exact Int.natCast_add _ _
theorem AllB.take {l : List Int} (h : AllB l) (n : Nat) : AllB (l.take n) := fun z hz => h z (List.mem_of_mem_take hz)
theorem AllB.drop {l : List Int} (h : AllB l) (n : Nat) : AllB (l.drop n) := fun z hz => h z (List.mem_of_mem_drop hz)
theorem AllB.rev {l : List Int} (h : AllB l) : AllB l.reverse := fun z hz => h z (by simpa using hz)
theorem AllB.append {l r : List Int} (h : AllB l) (h2 : AllB r) : AllB (l ++ r) := fun z hz => (List.mem_append.1 hz).elim (h z) (h2 z)
/-- The bytes of a number in their order. -/
def ord (big : Bool) (l : List Int) : List Int := if big = true then l else l.reverse
theorem ord_len (big : Bool) (l : List Int) : (ord big l).length = l.length := by unfold ord; split <;> simp
theorem AllB.ord {l : List Int} (h : AllB l) (big : Bool) : AllB (ord big l) := by
 by_cases hb : big = true
 ·unfold Wk.ord; rw [if_pos hb]; exact h
 ·unfold Wk.ord; rw [if_neg hb]; exact h.rev
theorem be64_p (u : TBinary_bigEndian) {c0 c1 c2 c3 c4 c5 c6 c7 : Int} {r : List Int} (h : AllB [c0, c1, c2, c3, c4, c5, c6, c7]) :
  p_bigEndian_Uint64 u (c0 :: c1 :: c2 :: c3 :: c4 :: c5 :: c6 :: c7 :: r) = some (val [c0, c1, c2, c3, c4, c5, c6, c7]) := by
 have h0 := h c0 (by simp); have h1 := h c1 (by simp); have h2 := h c2 (by simp); have h3 := h c3 (by simp); have h4 := h c4 (by simp); have h5 := h c5 (by simp); have h6 := h c6 (by simp); have h7 := h c7 (by simp)
 unfold p_bigEndian_Uint64
 have i : ∀ (k : Nat) x, (c0 :: c1 :: c2 :: c3 :: c4 :: c5 :: c6 :: c7 :: r)[k]? = some x → idx (c0 :: c1 :: c2 :: c3 :: c4 :: c5 :: c6 :: c7 :: r) ((k : Nat) : Int) = some x := fun k x h => idx_get h
 have i' : idx (c0 :: c1 :: c2 :: c3 :: c4 :: c5 :: c6 :: c7 :: r) (0 : Int) = some c0 ∧ idx (c0 :: c1 :: c2 :: c3 :: c4 :: c5 :: c6 :: c7 :: r) (1 : Int) = some c1 ∧ idx (c0 :: c1 :: c2 :: c3 :: c4 :: c5 :: c6 :: c7 :: r) (2 : Int) = some c2 ∧ idx (c0 :: c1 :: c2 :: c3 :: c4 :: c5 :: c6 :: c7 :: r) (3 : Int) = some c3 ∧ idx (c0 :: c1 :: c2 :: c3 :: c4 :: c5 :: c6 :: c7 :: r) (4 : Int) = some c4 ∧ idx (c0 :: c1 :: c2 :: c3 :: c4 :: c5 :: c6 :: c7 :: r) (5 : Int) = some c5 ∧ idx (c0 :: c1 :: c2 :: c3 :: c4 :: c5 :: c6 :: c7 :: r) (6 : Int) = some c6 ∧ idx (c0 :: c1 :: c2 :: c3 :: c4 :: c5 :: c6 :: c7 :: r) (7 : Int) = some c7 := ⟨i 0 c0 rfl, i 1 c1 rfl, i 2 c2 rfl, i 3 c3 rfl, i 4 c4 rfl, i 5 c5 rfl, i 6 c6 rfl, i 7 c7 rfl⟩
 obtain ⟨j0, j1, j2, j3, j4, j5, j6, j7⟩ := i'
 rw [j7, j6, j5, j4, j3, j2, j1, j0]
 simp only [Option.bind_some]
 rw [wu64 h7.1 (by omega), orb64 8 (by omega) h7.1 (by omega) h6, orb64 16 (by omega) (by omega) (by omega) h5, orb64 24 (by omega) (by omega) (by omega) h4, orb64 32 (by omega) (by omega) (by omega) h3,
  orb64 40 (by omega) (by omega) (by omega) h2, orb64 48 (by omega) (by omega) (by omega) h1, orb64 56 (by omega) (by omega) (by omega) h0]
 congr 1
 simp only [val, List.foldl_cons, List.foldl_nil]
 omega
theorem le64_p (u : TBinary_bigEndian) {c0 c1 c2 c3 c4 c5 c6 c7 : Int} {r : List Int} (h : AllB [c0, c1, c2, c3, c4, c5, c6, c7]) :
  p_littleEndian_Uint64 u (c0 :: c1 :: c2 :: c3 :: c4 :: c5 :: c6 :: c7 :: r) = some (val [c7, c6, c5, c4, c3, c2, c1, c0]) := by
 have h0 := h c0 (by simp); have h1 := h c1 (by simp); have h2 := h c2 (by simp); have h3 := h c3 (by simp); have h4 := h c4 (by simp); have h5 := h c5 (by simp); have h6 := h c6 (by simp); have h7 := h c7 (by simp)
 unfold p_littleEndian_Uint64
 have i : ∀ (k : Nat) x, (c0 :: c1 :: c2 :: c3 :: c4 :: c5 :: c6 :: c7 :: r)[k]? = some x → idx (c0 :: c1 :: c2 :: c3 :: c4 :: c5 :: c6 :: c7 :: r) ((k : Nat) : Int) = some x := fun k x h => idx_get h
 have i' : idx (c0 :: c1 :: c2 :: c3 :: c4 :: c5 :: c6 :: c7 :: r) (0 : Int) = some c0 ∧ idx (c0 :: c1 :: c2 :: c3 :: c4 :: c5 :: c6 :: c7 :: r) (1 : Int) = some c1 ∧ idx (c0 :: c1 :: c2 :: c3 :: c4 :: c5 :: c6 :: c7 :: r) (2 : Int) = some c2 ∧ idx (c0 :: c1 :: c2 :: c3 :: c4 :: c5 :: c6 :: c7 :: r) (3 : Int) = some c3 ∧ idx (c0 :: c1 :: c2 :: c3 :: c4 :: c5 :: c6 :: c7 :: r) (4 : Int) = some c4 ∧ idx (c0 :: c1 :: c2 :: c3 :: c4 :: c5 :: c6 :: c7 :: r) (5 : Int) = some c5 ∧ idx (c0 :: c1 :: c2 :: c3 :: c4 :: c5 :: c6 :: c7 :: r) (6 : Int) = some c6 ∧ idx (c0 :: c1 :: c2 :: c3 :: c4 :: c5 :: c6 :: c7 :: r) (7 : Int) = some c7 := ⟨i 0 c0 rfl, i 1 c1 rfl, i 2 c2 rfl, i 3 c3 rfl, i 4 c4 rfl, i 5 c5 rfl, i 6 c6 rfl, i 7 c7 rfl⟩
 obtain ⟨j0, j1, j2, j3, j4, j5, j6, j7⟩ := i'
 rw [j7, j6, j5, j4, j3, j2, j1, j0]
 simp only [Option.bind_some]
 rw [wu64 h0.1 (by omega), orb64 8 (by omega) h0.1 (by omega) h1, orb64 16 (by omega) (by omega) (by omega) h2, orb64 24 (by omega) (by omega) (by omega) h3, orb64 32 (by omega) (by omega) (by omega) h4,
  orb64 40 (by omega) (by omega) (by omega) h5, orb64 48 (by omega) (by omega) (by omega) h6, orb64 56 (by omega) (by omega) (by omega) h7]
 congr 1
 simp only [val, List.foldl_cons, List.foldl_nil]
 omega
theorem eight {c : List Int} (h : 8 ≤ c.length) : ∃ c0 c1 c2 c3 c4 c5 c6 c7 r, c = c0 :: c1 :: c2 :: c3 :: c4 :: c5 :: c6 :: c7 :: r := by
 match c, h with
 | c0 :: c1 :: c2 :: c3 :: c4 :: c5 :: c6 :: c7 :: r, _ => exact ⟨c0, c1, c2, c3, c4, c5, c6, c7, r, rfl⟩
/-- The number that eight bytes are. -/
def num8 (big : Bool) (c : List Int) : Int := val (ord big (c.take 8))
theorem be_p (u : TBinary_bigEndian) {c : List Int} (hc : AllB c) (h : 8 ≤ c.length) : p_bigEndian_Uint64 u c = some (num8 true c) := by
 obtain ⟨c0, c1, c2, c3, c4, c5, c6, c7, r, rfl⟩ := eight h
 rw [be64_p u (fun z hz => hc z (by simp at hz ⊢; omega))]
 rfl
theorem le_p (u : TBinary_bigEndian) {c : List Int} (hc : AllB c) (h : 8 ≤ c.length) : p_littleEndian_Uint64 u c = some (num8 false c) := by
 obtain ⟨c0, c1, c2, c3, c4, c5, c6, c7, r, rfl⟩ := eight h
 rw [le64_p u (fun z hz => hc z (by simp at hz ⊢; omega))]
 rfl
end Go.Proofs.YtjhdpnjlphpboaaDoor.Wk

namespace Go.Proofs.YtjhdpnjlphpboaaDoor.Wk
open Go.Vm
set_option linter.unusedVariables false
set_option linter.unusedSimpArgs false
/-- Ends that ascend by whole places, to q. -/
def EndsG (s : Int) (q : Int) : Int → List Int → Prop
 | p, [] => p = q
 | p, e :: r => p ≤ e ∧ Int.tmod (e - p) s = 0 ∧ EndsG s q e r
theorem goodEnds_loop {s : Int} (hs : 2 ≤ s) {l : List Int} (hl : ∀ x ∈ l, inI .i64 x) (hll : l.length < 4611686018427387904) : ∀ (F i : Nat) (p : Int), l.length - i < F → i ≤ l.length → 0 ≤ p →
  ∃ o, iter (p_goodEnds_l2 l s false) F (p, (i : Int)) = some o ∧ ((∃ q, o = .inl q ∧ EndsG s q p (l.drop i)) ∨ ∃ q, o = .inr (q, false)) := by
 intro F
 induction F with
 | zero => intro i p h; omega
 | succ F ih =>
  intro i p h hi h0
  show ∃ o, p_goodEnds_l2 l s false (iter (p_goodEnds_l2 l s false) F) _ = _ ∧ _
  generalize hK : iter (p_goodEnds_l2 l s false) F = K at *
  unfold p_goodEnds_l2
  simp only
  by_cases hil : i < l.length
  ·obtain ⟨x, hx⟩ : ∃ x, l[i]? = some x := ⟨_, List.getElem?_eq_getElem hil⟩
   have hxi := hl x (List.mem_of_getElem? hx)
   have hd : l.drop i = x :: l.drop (i + 1) := by
    rw [List.drop_eq_getElem_cons hil]
    rw [List.getElem?_eq_getElem hil] at hx
    rw [Option.some.inj hx]
   rw [cond_t (decide_eq_true (by omega)), idx_get hx, Option.bind_some, hd]
   by_cases hxp : x < p
   ·rw [cond_t (decide_eq_true hxp)]
    exact ⟨_, rfl, .inr ⟨_, rfl⟩⟩
   ·have hin : inI .i64 (x - p) := ⟨by simp only [lo]; omega, by have := hxi.2; simp only [Go.Vm.hi] at *; omega⟩
    rw [cond_f (decide_eq_false hxp), need_pos hin, need_pos (by omega)]
    by_cases ht : Int.tmod (x - p) s = 0
    ·rw [cond_f (nF ht)]
     unfold p_goodEnds_k3
     simp only [cond_false, cond_f (rfl : false = false)]
     rw [succ_cast, need_pos (in64 (by omega) (by omega))]
     obtain ⟨o, h1, h2⟩ := ih (i + 1) x (by omega) (by omega) (by omega)
     refine ⟨o, h1, ?_⟩
     rcases h2 with ⟨q, e, hq⟩ | h2
     ·exact .inl ⟨q, e, by omega, ht, hq⟩
     ·exact .inr h2
    ·rw [cond_t (nT ht)]
     exact ⟨_, rfl, .inr ⟨_, rfl⟩⟩
  ·rw [cond_f (decide_eq_false (by omega)), List.drop_eq_nil_of_le (by omega)]
   exact ⟨_, rfl, .inl ⟨p, rfl, rfl⟩⟩
theorem goodEnds_p {s : Int} (hs : 2 ≤ s) {l : List Int} (hl : ∀ x ∈ l, inI .i64 x) (hll : l.length < 4611686018427387904) {F : Nat} (hF : l.length < F) :
  ∃ q b, p_goodEnds F l (0 : Int) s false = some (q, b) ∧ (b = true → EndsG s q 0 l) := by
 obtain ⟨o, h1, h2⟩ := goodEnds_loop hs hl hll F 0 0 (by omega) (by omega) (by omega)
 have h1' : iter (p_goodEnds_l2 l s false) F ((0 : Int), (0 : Int)) = some o := h1
 unfold p_goodEnds
 rw [h1', Option.bind_some]
 rcases h2 with ⟨q, rfl, hq⟩ | ⟨q, rfl⟩
 ·exact ⟨q, true, rfl, fun _ => by simpa using hq⟩
 ·exact ⟨q, false, rfl, fun h => by cases h⟩
end Go.Proofs.YtjhdpnjlphpboaaDoor.Wk

namespace Go.Proofs.YtjhdpnjlphpboaaDoor.Wk
open Go.Vm
set_option linter.unusedVariables false
set_option linter.unusedSimpArgs false
/-- What is told of lines that lie flat. -/
structure Rws (l : List Nat) (e : List Int) (s : Int) : Prop where
 lo : 2 ≤ s
 hi : s ≤ 9
 few : l.length + e.length ≤ 1999
 whole : Int.tmod (l.length : Int) s = 0
 ends : EndsG s (l.length : Int) 0 e
abbrev layF (s : Int) : Int := if s = 2 then 1 else if s = 3 then 2 else s
abbrev gF (l : List Nat) (e : List Int) (s : Int) : TImpl_Geom := ⟨3, layF s, 0, l, e, [], []⟩
theorem weightF {F : Nat} (l : List Nat) (e : List Int) (y : Int) (hl : l.length ≤ 2147483647) (he : e.length ≤ 2147483647) (b : Int) :
  p_Weight (F + 2) ⟨3, y, 0, l, e, [], []⟩ b = some (1 + (l.length : Int) + (e.length : Int)) := by
 show p_Weight_b _ (F + 1) _ _ = _
 unfold p_Weight_b
 rw [need_pos (in64 (by omega) (by simp only; omega)), need_pos (in64 (by omega) (by simp only; omega))]
 show (p_Weight_l4 _ _ _).bind _ = _
 unfold p_Weight_l4
 rw [cond_f (by rfl), Option.bind_some, aft_inl]
 show (p_Weight_l3 _ _ _ _ _).bind _ = _
 unfold p_Weight_l3
 rw [cond_f (by rfl), Option.bind_some, aft_inl]
 rfl
theorem layoutsF {F : Nat} (l : List Nat) (e : List Int) (y : Int) (h1 : 1 ≤ y) (h9 : y ≤ 9) : p_gLayouts (F + 2) ⟨3, y, 0, l, e, [], []⟩ (9 : Int) = some true := by
 show p_gLayouts_b _ (F + 1) _ _ = _
 unfold p_gLayouts_b
 show (p_gLayouts_l2 _ _ _ _ _).bind _ = _
 unfold p_gLayouts_l2
 rw [cond_f (by rfl), Option.bind_some, aft_inl]
 unfold p_gLayouts_k1
 rw [cond_t (decide_eq_true h9), cond_t (decide_eq_true h1)]
theorem strideF {s : Int} (h2 : 2 ≤ s) (h9 : s ≤ 9) : p_Stride (layF s) = some s ∧ 1 ≤ layF s ∧ layF s ≤ 9 ∧ p_fLayout s = some (layF s) := by
 have : s = 2 ∨ s = 3 ∨ s = 4 ∨ s = 5 ∨ s = 6 ∨ s = 7 ∨ s = 8 ∨ s = 9 := by omega
 rcases this with rfl | rfl | rfl | rfl | rfl | rfl | rfl | rfl <;> exact ⟨rfl, by decide, by decide, rfl⟩
theorem smallF {F : Nat} (l : List Nat) (e : List Int) (y : Int) (h1 : 1 ≤ y) (h9 : y ≤ 9) (hl : l.length ≤ 2147483647) (he : e.length ≤ 2147483647) :
  p_gSmall (F + 2) [⟨3, y, 0, l, e, [], []⟩] = some (decide (l.length + e.length ≤ 1999)) := by
 unfold p_gSmall
 have r1 : ∀ v : Int, iter (p_gSmall_l2 [⟨3, y, 0, l, e, [], []⟩] (F + 2)) (F + 1) (v, (1 : Int)) = some (Sum.inl ()) := fun v => rfl
 show (p_gSmall_l2 _ _ (iter (p_gSmall_l2 _ (F + 2)) (F + 1)) _).bind _ = _
 generalize iter (p_gSmall_l2 _ (F + 2)) (F + 1) = K at *
 unfold p_gSmall_l2
 simp only
 rw [cond_t (by rfl), show ∀ g : TImpl_Geom, idx [g] (0 : Int) = some g from fun _ => rfl, Option.bind_some, weightF l e y hl he, Option.bind_some, need_pos (in64m (by omega) (by omega))]
 by_cases h : l.length + e.length ≤ 1999
 ·rw [cond_f (decide_eq_false (by omega)), layoutsF l e y h1 h9, Option.bind_some, cond_f (by rfl), need_pos (by decide)]
  rw [decide_eq_true h]
  show (K (_, (1 : Int))).bind _ = _
  rw [r1]
  rfl
 ·rw [cond_t (decide_eq_true (by omega)), Option.bind_some, aft_inr, decide_eq_false h]
theorem goodF {F : Nat} (l : List Nat) (e : List Int) {s : Int} (h2 : 2 ≤ s) (h9 : s ≤ 9) (he : ∀ x ∈ e, inI .i64 x) (hle : e.length < 4611686018427387904) (hF : e.length < F + 1) :
  ∃ b, p_Good (F + 2) (gF l e s) = some b ∧ (b = true → Int.tmod (l.length : Int) s = 0 ∧ EndsG s (l.length : Int) 0 e) := by
 obtain ⟨q, b, hq, hb⟩ := goodEnds_p (F := F + 1) h2 he hle hF
 show ∃ b, p_Good_b _ (F + 1) _ = some b ∧ _
 unfold p_Good_b
 rw [(strideF h2 h9).1, Option.bind_some, cond_f (by rfl), cond_f (decide_eq_false (by omega)), need_pos (by omega)]
 by_cases ht : Int.tmod (l.length : Int) s = 0
 ·rw [cond_f (nF ht), cond_f (by rfl), cond_f (by rfl)]
  unfold p_Good_k4
  rw [cond_f (by rfl), cond_f (by rfl)]
  unfold p_Good_k5
  rw [cond_f (by rfl), cond_t (by rfl)]
  unfold p_Good_k6
  rw [cond_t (by rfl)]
  show ∃ b, (p_goodEnds (F + 1) e (0 : Int) s false).bind _ = some b ∧ _
  rw [hq, Option.bind_some]
  cases b with
  | false => exact ⟨false, rfl, fun h => by cases h⟩
  | true =>
   refine ⟨_, rfl, fun h => ⟨ht, ?_⟩⟩
   have h := of_decide_eq_true h
   have := hb rfl
   simp only at h
   rw [h] at this
   exact this
 ·rw [cond_t (nT ht)]
  exact ⟨_, rfl, fun h => by cases h⟩
theorem fRows_p {F : Nat} (l : List Nat) (e : List Int) (s : Int) (he : ∀ x ∈ e, inI .i64 x) (hl : l.length ≤ 2147483647) (hle : e.length ≤ 2147483647) (hF : e.length < F + 1) :
  ∃ g b, p_fRows (F + 2) l e s = some (g, b) ∧ (b = true → g = gF l e s ∧ Rws l e s) := by
 unfold p_fRows p_fStride
 by_cases h2 : 2 ≤ s
 ·rw [cond_t (decide_eq_true h2), Option.bind_some]
  by_cases h9 : s ≤ 9
  ·obtain ⟨e1, y1, y9, e2⟩ := strideF h2 h9
   rw [cond_f (nF h9), e2, Option.bind_some]
   unfold p_gGood
   rw [smallF l e (layF s) y1 y9 hl hle, Option.bind_some]
   by_cases h : l.length + e.length ≤ 1999
   ·rw [cond_f (nF h)]
    obtain ⟨b, hb, hb2⟩ := goodF l e h2 h9 he (by omega) hF
    have r1 : iter (p_gGood_l2 [⟨3, layF s, 0, l, e, [], []⟩] (F + 2)) (F + 1) (1 : Int) = some (Sum.inl ()) := rfl
    show ∃ g b, (((p_gGood_l2 _ _ (iter (p_gGood_l2 _ (F + 2)) (F + 1)) _).bind _).bind _) = some (g, b) ∧ _
    generalize iter (p_gGood_l2 _ (F + 2)) (F + 1) = K at *
    unfold p_gGood_l2
    rw [cond_t (by rfl), show ∀ g : TImpl_Geom, idx [g] (0 : Int) = some g from fun _ => rfl, Option.bind_some, hb, Option.bind_some]
    cases b with
    | false => exact ⟨_, _, rfl, fun h => by cases h⟩
    | true =>
     rw [cond_f (by rfl), need_pos (by decide)]
     show ∃ g b, (((K (1 : Int)).bind _).bind _) = some (g, b) ∧ _
     rw [r1]
     exact ⟨_, _, rfl, fun _ => ⟨rfl, h2, h9, h, (hb2 rfl).1, (hb2 rfl).2⟩⟩
   ·rw [cond_t (nT h)]
    exact ⟨_, _, rfl, fun h => by cases h⟩
  ·rw [cond_t (nT h9)]
   exact ⟨_, _, rfl, fun h => by cases h⟩
 ·rw [cond_f (decide_eq_false h2), Option.bind_some]
  exact ⟨_, _, rfl, fun h => by cases h⟩
end Go.Proofs.YtjhdpnjlphpboaaDoor.Wk

namespace Go.Proofs.YtjhdpnjlphpboaaDoor.Wk
open Go.Vm
set_option linter.unusedVariables false
set_option linter.unusedSimpArgs false
/-- the place at a -/
abbrev plcF (t : Nat) (l : List Nat) (a : Nat) : List Nat := (l.drop a).take t
abbrev plcsF (t : Nat) (l : List Nat) (a n : Nat) : List (List Nat) := (List.range n).map fun k => plcF t l (a + k * t)
/-- ends, of numbers of places -/
def endsF (t : Nat) : Nat → List Nat → List Int
 | _, [] => []
 | a, n :: r => ((a + n * t : Nat) : Int) :: endsF t (a + n * t) r
def lastF (t : Nat) : Nat → List Nat → Nat
 | a, [] => a
 | a, n :: r => lastF t (a + n * t) r
theorem lastF_le {t : Nat} : ∀ (ns : List Nat) (a : Nat), a ≤ lastF t a ns
 | [], a => Nat.le_refl _
 | n :: r, a => Nat.le_trans (Nat.le_add_right _ _) (lastF_le r (a + n * t))
theorem endsF_len {t : Nat} : ∀ (ns : List Nat) (a : Nat), (endsF t a ns).length = ns.length
 | [], a => rfl
 | n :: r, a => by simp [endsF, endsF_len r]
theorem EndsG.nat {t : Nat} (ht : 2 ≤ t) {q : Int} : ∀ (e : List Int) (a : Nat), EndsG (t : Int) q (a : Int) e → ∃ ns, e = endsF t a ns ∧ q = (lastF t a ns : Int)
 | [], a, h => ⟨[], rfl, h.symm⟩
 | x :: r, a, h => by
  obtain ⟨h1, h2, h3⟩ := h
  obtain ⟨k, hk⟩ : ∃ k : Nat, x - a = k := ⟨(x - a).toNat, by omega⟩
  rw [hk] at h2
  have h4 : k % t = 0 := by
   have : ((k % t : Nat) : Int) = 0 := by rw [← h2]; rfl
   omega
  obtain ⟨n, rfl⟩ : ∃ n, k = n * t := ⟨k / t, by rw [Nat.div_mul_cancel (Nat.dvd_of_mod_eq_zero h4)]⟩
  have hx : x = ((a + n * t : Nat) : Int) := by omega
  subst hx
  obtain ⟨ns, e1, e2⟩ := EndsG.nat ht r _ h3
  exact ⟨n :: ns, by rw [e1]; rfl, e2⟩
def linesF (t : Nat) (l : List Nat) : Nat → List Nat → List (List (List Nat))
 | _, [] => []
 | a, n :: r => plcsF t l a n :: linesF t l (a + n * t) r
/-- where line number i begins -/
def fromF (t : Nat) : Nat → List Nat → Nat → Nat
 | a, [], _ => a
 | a, _ :: _, 0 => a
 | a, n :: r, i + 1 => fromF t (a + n * t) r i
theorem at_F {t : Nat} {l : List Nat} : ∀ (ns : List Nat) (a i n : Nat), ns[i]? = some n →
  (endsF t a ns)[i]? = some ((fromF t a ns i + n * t : Nat) : Int) ∧ (linesF t l a ns)[i]? = some (plcsF t l (fromF t a ns i) n) ∧ fromF t a ns (i + 1) = fromF t a ns i + n * t ∧ fromF t a ns i + n * t ≤ lastF t a ns
 | [], a, i, n, h => by simp at h
 | m :: r, a, 0, n, h => by
  simp at h; subst h
  refine ⟨rfl, rfl, ?_, lastF_le r _⟩
  cases r <;> rfl
 | m :: r, a, i + 1, n, h => at_F r (a + m * t) i n (by simpa using h)
theorem from0 {t a : Nat} : ∀ ns : List Nat, fromF t a ns 0 = a
 | [] => rfl
 | _ :: _ => rfl
/-- line number i -/
theorem part_p {F : Nat} {l : List Nat} {s : Int} {t : Nat} {ns : List Nat} (hb : l.length ≤ 2000) (ha : lastF t 0 ns ≤ l.length) {i n : Nat} (hn : ns[i]? = some n) (hil : i ≤ 2000) :
  p_Part F (gF l (endsF t 0 ns) s) (i : Int) = some ⟨8, layF s, 0, (l.drop (fromF t 0 ns i)).take (n * t), [], [], []⟩ := by
 obtain ⟨e1, _, e3, e4⟩ := at_F (t := t) (l := l) ns 0 i n hn
 unfold p_Part
 rw [cond_f (by rfl), cond_f (by rfl)]
 have key : p_Part_k5 (gF l (endsF t 0 ns) s) (i : Int) (fromF t 0 ns i : Int) = some ⟨8, layF s, 0, (l.drop (fromF t 0 ns i)).take (n * t), [], [], []⟩ := by
  unfold p_Part_k5
  rw [cond_f (by rfl)]
  unfold p_Part_k6
  show (idx (endsF t 0 ns) (i : Int)).bind _ = _
  rw [idx_get e1, Option.bind_some]
  have e5 : (((fromF t 0 ns i + n * t : Nat) : Int)).toNat - ((fromF t 0 ns i : Int)).toNat = n * t := by omega
  dsimp only [gF]
  rw [need_pos (by omega), need_pos (by simp; omega), e5]
  rfl
 by_cases h0 : i = 0
 ·subst h0
  rw [cond_f (by rfl)]
  rw [from0] at key
  rw [from0]
  exact key
 ·obtain ⟨j, rfl⟩ : ∃ j, i = j + 1 := ⟨i - 1, by omega⟩
  have hj : j < ns.length := by have := (List.getElem?_eq_some_iff.1 hn).1; omega
  obtain ⟨m, hm⟩ : ∃ m, ns[j]? = some m := ⟨_, List.getElem?_eq_getElem hj⟩
  obtain ⟨f1, _, f3, f4⟩ := at_F (t := t) (l := l) ns 0 j m hm
  have ej : ((j + 1 : Nat) : Int) - 1 = (j : Int) := by omega
  rw [cond_t (decide_eq_true (by omega)), ej, need_pos (in64 (by omega) (by omega))]
  show (idx (endsF t 0 ns) (j : Int)).bind _ = _
  rw [idx_get f1, Option.bind_some, ← f3]
  exact key
/-- a loop that builds a list -/
theorem build_loop {β T : Type} (M : List β) (b : ((Int × List β) → Option (Sum (List β) T)) → (Int × List β) → Option (Sum (List β) T))
  (hend : ∀ K (k : Nat) o, M.length ≤ k → b K ((k : Int), o) = some (.inl o)) (hstep : ∀ K (k : Nat) y o, M[k]? = some y → o.length = k → b K ((k : Int), o) = K (((k + 1 : Nat) : Int), o ++ [y])) :
  ∀ (F k : Nat), M.length - k < F → k ≤ M.length → iter b F ((k : Int), M.take k) = some (.inl M) := by
 intro F
 induction F with
 | zero => intro k h; omega
 | succ F ih =>
  intro k h hk
  show b (iter b F) _ = _
  by_cases hlt : k < M.length
  ·obtain ⟨x, hx⟩ : ∃ x, M[k]? = some x := ⟨_, List.getElem?_eq_getElem hlt⟩
   rw [hstep _ k x _ hx (by simp; omega)]
   have : M.take k ++ [x] = M.take (k + 1) := by rw [List.take_add_one, hx]; rfl
   rw [this]
   exact ih (k + 1) (by omega) hlt
  ·rw [hend _ k _ (by omega), List.take_of_length_le (by omega)]
abbrev partF (l : List Nat) (s : Int) (t : Nat) (ns : List Nat) (i : Nat) : TImpl_Geom := ⟨8, layF s, 0, (l.drop (fromF t 0 ns i)).take (ns.getD i 0 * t), [], [], []⟩
theorem parts_p {F : Nat} {l : List Nat} {s : Int} {t : Nat} {ns : List Nat} (hb : l.length ≤ 2000) (hns : ns.length ≤ 2000) (ha : lastF t 0 ns ≤ l.length) (hF : 2001 < F) :
  p_Parts F (gF l (endsF t 0 ns) s) = some ((List.range ns.length).map (partF l s t ns)) := by
 have hM : ((List.range ns.length).map (partF l s t ns)).length = ns.length := by simp
 have hl := build_loop ((List.range ns.length).map (partF l s t ns)) (p_Parts_l2 (gF l (endsF t 0 ns) s) F (ns.length : Int)) (fun K k o hk => by
  unfold p_Parts_l2
  rw [cond_f (decide_eq_false (by simp only; omega))]) (fun K k x o hx ho => by
  have hk := (List.getElem?_eq_some_iff.1 hx).1
  rw [hM] at hk
  obtain ⟨n, hn⟩ : ∃ n, ns[k]? = some n := ⟨_, List.getElem?_eq_getElem hk⟩
  have hxe : x = ⟨8, layF s, 0, (l.drop (fromF t 0 ns k)).take (n * t), [], [], []⟩ := by
   rw [List.getElem?_map, List.getElem?_range hk] at hx
   have := Option.some.inj hx
   rw [← this]
   simp [partF, List.getD_eq_getElem?_getD, hn]
  unfold p_Parts_l2
  simp only
  rw [cond_t (decide_eq_true (by omega)), part_p hb ha hn (by omega), Option.bind_some, need_pos (by simp; omega), succ_cast, need_pos (in64 (by omega) (by omega)), hxe]) F 0 (by omega) (by omega)
 have h' : iter (p_Parts_l2 (gF l (endsF t 0 ns) s) F (ns.length : Int)) F ((0 : Int), []) = some (.inl ((List.range ns.length).map (partF l s t ns))) := hl
 unfold p_Parts
 have hnp : p_NumParts (gF l (endsF t 0 ns) s) = some (ns.length : Int) := by
  unfold p_NumParts p_NumParts_k1
  rw [cond_t (by rfl), cond_t (by rfl)]
  simp only [gF, endsF_len]
 rw [hnp, Option.bind_some, h', Option.bind_some, aft_inl]
 rfl
end Go.Proofs.YtjhdpnjlphpboaaDoor.Wk

set_option linter.unusedVariables false
set_option linter.unusedSimpArgs false
namespace Go.Proofs.YtjhdpnjlphpboaaDoor.Wk
open Go.Vm
theorem wu8 (z : Int) : IntKind.u8.wrap z = z % 256 := rfl
def b4 (v : Int) : List Int := [v / 2 ^ 24 % 256, v / 2 ^ 16 % 256, v / 2 ^ 8 % 256, v % 256]
def b8 (v : Int) : List Int := [v / 2 ^ 56 % 256, v / 2 ^ 48 % 256, v / 2 ^ 40 % 256, v / 2 ^ 32 % 256, v / 2 ^ 24 % 256, v / 2 ^ 16 % 256, v / 2 ^ 8 % 256, v % 256]
/-- the bytes of a count, and of a number -/
def c4 (big : Bool) (v : Int) : List Int := ord big (b4 v)
def n8 (big : Bool) (x : Nat) : List Int := ord big (b8 (x : Int))
theorem c4_len (big : Bool) (v : Int) : (c4 big v).length = 4 := by unfold c4; rw [ord_len]; rfl
theorem n8_len (big : Bool) (x : Nat) : (n8 big x).length = 8 := by unfold n8; rw [ord_len]; rfl
theorem AllB.c4 (big : Bool) (v : Int) : AllB (c4 big v) := by
 unfold Wk.c4
 refine AllB.ord (fun z hz => ?_) big
 simp only [b4, List.mem_cons, List.not_mem_nil, or_false] at hz
 rcases hz with rfl | rfl | rfl | rfl <;> omega
theorem AllB.n8 (big : Bool) (x : Nat) : AllB (n8 big x) := by
 unfold Wk.n8
 refine AllB.ord (fun z hz => ?_) big
 simp only [b8, List.mem_cons, List.not_mem_nil, or_false] at hz
 rcases hz with rfl | rfl | rfl | rfl | rfl | rfl | rfl | rfl <;> omega
theorem ord_ord (big : Bool) (l : List Int) : ord big (ord big l) = l := by unfold ord; split <;> simp
theorem val4 {v : Int} (h0 : 0 ≤ v) (h1 : v < 4294967296) : val (b4 v) = v := by
 simp only [val, b4, List.foldl_cons, List.foldl_nil]
 omega
theorem val8 {v : Int} (h0 : 0 ≤ v) (h1 : v < 18446744073709551616) : val (b8 v) = v := by
 simp only [val, b8, List.foldl_cons, List.foldl_nil]
 omega
theorem num8_n8 (big : Bool) {x : Nat} (h : x < 18446744073709551616) (r : List Int) : num8 big (n8 big x ++ r) = (x : Int) := by
 unfold num8
 rw [List.take_append_of_le_length (by rw [n8_len]; exact Nat.le_refl _), List.take_of_length_le (by rw [n8_len]; exact Nat.le_refl _)]
 unfold n8
 rw [ord_ord, val8 (by omega) (by omega)]
theorem wu32_b (u : TBinary_bigEndian) {v b1 : Int} {b2 : List Int} (h0 : 0 ≤ v) (hl : b2.length ≤ 1000000000) : p_WriteUInt32_bigEndian u v b1 b2 = some (0, b2 ++ c4 true v) := by
 unfold p_WriteUInt32_bigEndian
 rw [show idx [(0 : Int), (0 : Int), (0 : Int), (0 : Int)] (3 : Int) = some 0 from rfl]
 simp only [Option.bind_some]
 repeat rw [need_pos (by first | omega | (simp; done) | (simp; omega))]
 rfl
theorem wu32_l (u : TBinary_bigEndian) {v b1 : Int} {b2 : List Int} (h0 : 0 ≤ v) (hl : b2.length ≤ 1000000000) : p_WriteUInt32_littleEndian u v b1 b2 = some (0, b2 ++ c4 false v) := by
 unfold p_WriteUInt32_littleEndian
 rw [show idx [(0 : Int), (0 : Int), (0 : Int), (0 : Int)] (3 : Int) = some 0 from rfl]
 simp only [Option.bind_some]
 repeat rw [need_pos (by first | omega | (simp; done) | (simp; omega))]
 rfl
/-- Eight bytes are written into a row. -/
theorem set8 (A R : List Int) (i : Nat) (hA : A.length = 8 * i) {z0 z1 z2 z3 z4 z5 z6 z7 : Int} (a0 a1 a2 a3 a4 a5 a6 a7 : Int) {j0 j1 j2 j3 j4 j5 j6 j7 : Nat} (h0 : j0 = 8 * i) (h1 : j1 = 8 * i + 1) (h2 : j2 = 8 * i + 2) (h3 : j3 = 8 * i + 3) (h4 : j4 = 8 * i + 4) (h5 : j5 = 8 * i + 5) (h6 : j6 = 8 * i + 6) (h7 : j7 = 8 * i + 7) :
  ((((((((A ++ z0 :: z1 :: z2 :: z3 :: z4 :: z5 :: z6 :: z7 :: R).set j0 a0).set j1 a1).set j2 a2).set j3 a3).set j4 a4).set j5 a5).set j6 a6).set j7 a7 = A ++ a0 :: a1 :: a2 :: a3 :: a4 :: a5 :: a6 :: a7 :: R := by
 subst h0 h1 h2 h3 h4 h5 h6 h7
 rw [← hA]
 simp only [List.set_append_right _ _ (Nat.le_refl _), List.set_append_right _ _ (Nat.le_add_right _ _), Nat.sub_self, Nat.add_sub_cancel_left, List.set_cons_zero, List.set_cons_succ]
theorem eight_at {L : List Int} {i n : Nat} (hL : L.length = 8 * n) (hi : i < n) : ∃ A z0 z1 z2 z3 z4 z5 z6 z7 R, L = A ++ z0 :: z1 :: z2 :: z3 :: z4 :: z5 :: z6 :: z7 :: R ∧ A.length = 8 * i ∧ A = L.take (8 * i) ∧ R = L.drop (8 * i + 8) := by
 obtain ⟨c0, c1, c2, c3, c4, c5, c6, c7, r, h⟩ := eight (c := L.drop (8 * i)) (by rw [List.length_drop]; omega)
 refine ⟨L.take (8 * i), c0, c1, c2, c3, c4, c5, c6, c7, r, by rw [← h, List.take_append_drop], by rw [List.length_take]; omega, rfl, ?_⟩
 rw [← List.drop_drop, h]
 rfl
theorem take_next {L : List Int} {A R w : List Int} {i : Nat} (hA : A.length = 8 * i) (hw : w.length = 8) : (A ++ (w ++ R)).take (8 * (i + 1)) = A ++ w := by
 rw [← List.append_assoc, show 8 * (i + 1) = (A ++ w).length by rw [List.length_append]; omega, List.take_left]
theorem wf_loop_b {a1 : List Nat} (hx : ∀ x ∈ a1, x < 18446744073709551616) (hl : a1.length ≤ 40000) : ∀ (F i : Nat) (L : List Int), a1.length - i < F → i ≤ a1.length → L.length = 8 * a1.length → L.take (8 * i) = (a1.take i).flatMap (n8 true) →
  iter (p_WriteFloatArray_bigEndian_l2 a1) F ((i : Int), L) = some (.inl (a1.flatMap (n8 true))) := by
 intro F
 induction F with
 | zero => intro i L h; omega
 | succ F ih =>
  intro i L h hi hL ht
  show p_WriteFloatArray_bigEndian_l2 a1 (iter (p_WriteFloatArray_bigEndian_l2 a1) F) _ = _
  generalize hK : iter (p_WriteFloatArray_bigEndian_l2 a1) F = K at *
  unfold p_WriteFloatArray_bigEndian_l2
  dsimp only
  by_cases hil : i < a1.length
  ·obtain ⟨x, hxi⟩ : ∃ x, a1[i]? = some x := ⟨_, List.getElem?_eq_getElem hil⟩
   obtain ⟨A, z0, z1, z2, z3, z4, z5, z6, z7, R, hLe, hA, hAe, hRe⟩ := eight_at hL hil
   rw [cond_t (decide_eq_true (by omega)), idx_get hxi, Option.bind_some, need_pos (in64 (by omega) (by omega)), need_pos (by omega), need_pos (by omega)]
   have h7 : idx L ((8 : Int) * (i : Int) + (7 : Int)) = some z7 := by
    refine idx_some (n := 8 * i + 7) ?_ (by omega)
    rw [hLe, List.getElem?_append_right (by omega), hA, Nat.add_sub_cancel_left]; rfl
   rw [h7, Option.bind_some]
   repeat rw [need_pos (by first | omega | (simp only [List.length_set]; omega) | exact in64m (by omega) (by omega))]
   rw [hLe, set8 A R i hA _ _ _ _ _ _ _ _ (by omega) (by omega) (by omega) (by omega) (by omega) (by omega) (by omega) (by omega)]
   have e := ih (i + 1) (A ++ (n8 true x ++ R)) (by omega) (by omega) (by
    have := congrArg List.length hLe
    simp only [List.length_append, List.length_cons, n8_len] at this ⊢
    omega) (by
    rw [take_next (L := L) hA (n8_len _ _), List.take_add_one, hxi, Option.toList_some, List.flatMap_append, ← ht, hAe]
    simp)
   rw [succ_cast]
   exact e
  ·have hie : i = a1.length := by omega
   subst hie
   rw [cond_f (decide_eq_false (by omega))]
   rw [List.take_of_length_le (by omega), List.take_of_length_le (Nat.le_refl _)] at ht
   rw [ht]
theorem wf_loop_l {a1 : List Nat} (hx : ∀ x ∈ a1, x < 18446744073709551616) (hl : a1.length ≤ 40000) : ∀ (F i : Nat) (L : List Int), a1.length - i < F → i ≤ a1.length → L.length = 8 * a1.length → L.take (8 * i) = (a1.take i).flatMap (n8 false) →
  iter (p_WriteFloatArray_littleEndian_l2 a1) F ((i : Int), L) = some (.inl (a1.flatMap (n8 false))) := by
 intro F
 induction F with
 | zero => intro i L h; omega
 | succ F ih =>
  intro i L h hi hL ht
  show p_WriteFloatArray_littleEndian_l2 a1 (iter (p_WriteFloatArray_littleEndian_l2 a1) F) _ = _
  generalize hK : iter (p_WriteFloatArray_littleEndian_l2 a1) F = K at *
  unfold p_WriteFloatArray_littleEndian_l2
  dsimp only
  by_cases hil : i < a1.length
  ·obtain ⟨x, hxi⟩ : ∃ x, a1[i]? = some x := ⟨_, List.getElem?_eq_getElem hil⟩
   obtain ⟨A, z0, z1, z2, z3, z4, z5, z6, z7, R, hLe, hA, hAe, hRe⟩ := eight_at hL hil
   rw [cond_t (decide_eq_true (by omega)), idx_get hxi, Option.bind_some, need_pos (in64 (by omega) (by omega)), need_pos (by omega), need_pos (by omega)]
   have h7 : idx L ((8 : Int) * (i : Int) + (7 : Int)) = some z7 := by
    refine idx_some (n := 8 * i + 7) ?_ (by omega)
    rw [hLe, List.getElem?_append_right (by omega), hA, Nat.add_sub_cancel_left]; rfl
   rw [h7, Option.bind_some]
   repeat rw [need_pos (by first | omega | (simp only [List.length_set]; omega) | exact in64m (by omega) (by omega))]
   rw [hLe, set8 A R i hA _ _ _ _ _ _ _ _ (by omega) (by omega) (by omega) (by omega) (by omega) (by omega) (by omega) (by omega)]
   have e := ih (i + 1) (A ++ (n8 false x ++ R)) (by omega) (by omega) (by
    have := congrArg List.length hLe
    simp only [List.length_append, List.length_cons, n8_len] at this ⊢
    omega) (by
    rw [take_next (L := L) hA (n8_len _ _), List.take_add_one, hxi, Option.toList_some, List.flatMap_append, ← ht, hAe]
    simp)
   rw [succ_cast]
   exact e
  ·have hie : i = a1.length := by omega
   subst hie
   rw [cond_f (decide_eq_false (by omega))]
   rw [List.take_of_length_le (by omega), List.take_of_length_le (Nat.le_refl _)] at ht
   rw [ht]
theorem fm_len (big : Bool) : ∀ l : List Nat, (l.flatMap (n8 big)).length = 8 * l.length
 | [] => rfl
 | x :: r => by rw [List.flatMap_cons, List.length_append, fm_len big r, n8_len, List.length_cons]; omega
theorem wfa_b {F : Nat} (hF : 40001 < F) (u : TBinary_bigEndian) {a1 : List Nat} {b1 : Int} {b2 : List Int} (hx : ∀ x ∈ a1, x < 18446744073709551616) (hl : a1.length ≤ 40000) (h2 : b2.length ≤ 1000000000) : p_WriteFloatArray_bigEndian F u a1 b1 b2 = some (0, b2 ++ a1.flatMap (n8 true)) := by
 unfold p_WriteFloatArray_bigEndian
 have e : ((8 : Int) * ((a1.length : Nat) : Int)).toNat = 8 * a1.length := by omega
 have := wf_loop_b hx hl F 0 (List.replicate (8 * a1.length) 0) (by omega) (by omega) (by simp) (by simp)
 rw [need_pos (in64 (by omega) (by omega)), need_pos (by omega), e, show ((0 : Int), List.replicate (8 * a1.length) (0 : Int)) = (((0 : Nat) : Int), List.replicate (8 * a1.length) (0 : Int)) from rfl, this, Option.bind_some, aft_inl]
 unfold p_WriteFloatArray_bigEndian_k1
 rw [e, need_pos (by rw [fm_len]), need_pos (by rw [fm_len]; omega)]
theorem wfa_l {F : Nat} (hF : 40001 < F) (u : TBinary_bigEndian) {a1 : List Nat} {b1 : Int} {b2 : List Int} (hx : ∀ x ∈ a1, x < 18446744073709551616) (hl : a1.length ≤ 40000) (h2 : b2.length ≤ 1000000000) : p_WriteFloatArray_littleEndian F u a1 b1 b2 = some (0, b2 ++ a1.flatMap (n8 false)) := by
 unfold p_WriteFloatArray_littleEndian
 have e : ((8 : Int) * ((a1.length : Nat) : Int)).toNat = 8 * a1.length := by omega
 have := wf_loop_l hx hl F 0 (List.replicate (8 * a1.length) 0) (by omega) (by omega) (by simp) (by simp)
 rw [need_pos (in64 (by omega) (by omega)), need_pos (by omega), e, show ((0 : Int), List.replicate (8 * a1.length) (0 : Int)) = (((0 : Nat) : Int), List.replicate (8 * a1.length) (0 : Int)) from rfl, this, Option.bind_some, aft_inl]
 unfold p_WriteFloatArray_littleEndian_k1
 rw [e, need_pos (by rw [fm_len]), need_pos (by rw [fm_len]; omega)]
end Go.Proofs.YtjhdpnjlphpboaaDoor.Wk

set_option linter.unusedVariables false
set_option linter.unusedSimpArgs false
namespace Go.Proofs.YtjhdpnjlphpboaaDoor.Wk
open Go.Vm
theorem c4_get (big : Bool) (v : Int) (i : Nat) (hi : i < 4) : (c4 big v)[i]? = some (v / 2 ^ (8 * (if big = true then 3 - i else i)) % 256) := by
 have : i = 0 ∨ i = 1 ∨ i = 2 ∨ i = 3 := by omega
 cases big <;> rcases this with rfl | rfl | rfl | rfl <;> simp [c4, ord, b4]
theorem n8_get (big : Bool) (x : Nat) (i : Nat) (hi : i < 8) : (n8 big x)[i]? = some ((x : Int) / 2 ^ (8 * (if big = true then 7 - i else i)) % 256) := by
 have : i = 0 ∨ i = 1 ∨ i = 2 ∨ i = 3 ∨ i = 4 ∨ i = 5 ∨ i = 6 ∨ i = 7 := by omega
 cases big <;> rcases this with rfl | rfl | rfl | rfl | rfl | rfl | rfl | rfl <;> simp [n8, ord, b8]
theorem cb_p {F : Nat} (hF : 10 < F) {v : Int} (h0 : 0 ≤ v) (h1 : v < 4294967296) (big : Bool) : p_CountBytes F v big = some (c4 big v) := by
 have hw : IntKind.u64.wrap v = v := wu64 h0 (by omega)
 have hl := build_loop (c4 big v) (p_CountBytes_l2 v big) (fun K k o hk => by
  rw [c4_len] at hk
  unfold p_CountBytes_l2
  rw [cond_f (decide_eq_false (by omega))]) (fun K k x o hx ho => by
  have hk := (List.getElem?_eq_some_iff.1 hx).1
  rw [c4_len] at hk
  rw [c4_get big v k hk] at hx
  have hx := Option.some.inj hx
  unfold p_CountBytes_l2
  dsimp only
  rw [cond_t (decide_eq_true (by omega))]
  have key : ∀ j : Nat, j ≤ 3 → v / 2 ^ (8 * j) % 256 = x → p_CountBytes_k3 v ((k : Int), o) K (j : Int) = K (((k + 1 : Nat) : Int), o ++ [x]) := fun j hj e => by
   unfold p_CountBytes_k3
   have e8 : ((8 : Int) * (j : Int)).toNat = 8 * j := by omega
   have hb : (IntKind.u64.bits : Int) = 64 := rfl
   rw [hw, e8, wu8, e, need_pos (in64 (by omega) (by omega)), need_pos (by rw [hb]; omega), need_pos (by simp; omega), succ_cast, need_pos (in64 (by omega) (by omega))]
  cases big with
  | true =>
   rw [if_pos rfl] at hx
   rw [cond_t rfl, need_pos (in64m (by omega) (by omega)), show (3 : Int) - (k : Int) = ((3 - k : Nat) : Int) by omega]
   exact key _ (by omega) hx
  | false =>
   rw [if_neg (by simp)] at hx
   rw [cond_f rfl]
   exact key _ (by omega) hx) F 0 (by rw [c4_len]; omega) (by omega)
 have h' : iter (p_CountBytes_l2 v big) F ((0 : Int), []) = some (.inl (c4 big v)) := hl
 unfold p_CountBytes
 rw [h', Option.bind_some, aft_inl]
 rfl
theorem bo8_loop (big : Bool) (x : Nat) (P : List Int) (hP : P.length ≤ 400000) : ∀ (F k : Nat), 8 - k < F → k ≤ 8 → iter (p_BytesOf_l4 big x) F ((k : Int), P ++ (n8 big x).take k) = some (.inl (P ++ n8 big x)) := by
 intro F
 induction F with
 | zero => intro k h; omega
 | succ F ih =>
  intro k h hk
  show p_BytesOf_l4 big x (iter (p_BytesOf_l4 big x) F) _ = _
  generalize hK : iter (p_BytesOf_l4 big x) F = K at *
  unfold p_BytesOf_l4
  dsimp only
  by_cases h8 : k < 8
  ·rw [cond_t (decide_eq_true (by omega))]
   have hx := n8_get big x k h8
   have key : ∀ j : Nat, j ≤ 7 → (n8 big x)[k]? = some ((x : Int) / 2 ^ (8 * j) % 256) → p_BytesOf_k5 x ((k : Int), P ++ (n8 big x).take k) K (j : Int) = some (.inl (P ++ n8 big x)) := fun j hj e => by
    unfold p_BytesOf_k5
    have e8 : ((8 : Int) * (j : Int)).toNat = 8 * j := by omega
    have hb : (IntKind.u64.bits : Int) = 64 := rfl
    rw [e8, wu8, need_pos (in64 (by omega) (by omega)), need_pos (by rw [hb]; omega), need_pos (by simp only [List.length_append, List.length_take, n8_len, List.length_cons, List.length_nil]; omega), succ_cast, need_pos (in64 (by omega) (by omega))]
    have := ih (k + 1) (by omega) (by omega)
    rw [List.take_add_one, e, Option.toList_some, ← List.append_assoc] at this
    exact this
   cases big with
   | true =>
    rw [if_pos rfl] at hx
    rw [cond_t rfl, need_pos (in64m (by omega) (by omega)), show (7 : Int) - (k : Int) = ((7 - k : Nat) : Int) by omega]
    exact key _ (by omega) hx
   | false =>
    rw [if_neg (by simp)] at hx
    rw [cond_f rfl]
    exact key _ (by omega) hx
  ·rw [cond_f (decide_eq_false (by omega)), List.take_of_length_le (by rw [n8_len]; omega)]
theorem bo_p {F : Nat} {l : List Nat} (hl : l.length ≤ 40000) (hF : 40010 < F) (big : Bool) : p_BytesOf F l big = some (l.flatMap (n8 big)) := by
 have hl := fold_all (V := List Int) (T := List Int) l (p_BytesOf_l2 l big F) (fun i s => ((i : Int), s)) (fun s x => s ++ n8 big x) (fun s => s) (fun i s => s.length = 8 * i)
  (fun K s hs => by
   unfold p_BytesOf_l2
   dsimp only
   rw [cond_f (decide_eq_false (by omega))])
  (fun K i x s hx hs => by
   have hi := (List.getElem?_eq_some_iff.1 hx).1
   unfold p_BytesOf_l2
   dsimp only
   have := bo8_loop big x s (by omega) F 0 (by omega) (by omega)
   rw [List.take_zero, List.append_nil] at this
   rw [cond_t (decide_eq_true (by omega)), idx_get hx, Option.bind_some]
   have t2 : iter (p_BytesOf_l4 big x) F ((0 : Int), s) = some (.inl (s ++ n8 big x)) := this
   rw [t2, Option.bind_some, aft_inl]
   unfold p_BytesOf_k3
   dsimp only
   rw [succ_cast, need_pos (in64 (by omega) (by omega))])
  (fun i x s hx hs => by rw [List.length_append, n8_len]; omega) F 0 [] (by omega) (by omega) rfl
 rw [List.drop_zero] at hl
 have h' : iter (p_BytesOf_l2 l big F) F ((0 : Int), []) = some (.inl (l.foldl (fun s x => s ++ n8 big x) [])) := hl
 have e : ∀ (l : List Nat) (s : List Int), l.foldl (fun s x => s ++ n8 big x) s = s ++ l.flatMap (n8 big) := by
  intro l
  induction l with
  | nil => intro s; simp
  | cons a r ih => intro s; rw [List.foldl_cons, ih, List.flatMap_cons, List.append_assoc]
 unfold p_BytesOf
 rw [h', Option.bind_some, aft_inl, e, List.nil_append]
 rfl
end Go.Proofs.YtjhdpnjlphpboaaDoor.Wk

set_option linter.unusedVariables false
set_option linter.unusedSimpArgs false
namespace Go.Proofs.YtjhdpnjlphpboaaDoor.Wk
open Go.Vm
theorem full_p {n : Nat} {b0 : List Int} {off : Nat} {b2 : Int} {b3 : List Int} (h : off + n ≤ b0.length) (hb : b0.length ≤ 1000000000) (h3 : b3.length = n) : ∃ l, p_ReadFull n b0 (off : Int) b2 b3 = some (.inr ((n : Int), b0, ((off + n : Nat) : Int), l, (b0.drop off).take n)) := by
 unfold p_ReadFull
 by_cases h0 : 0 < n
 ·have ef : ((off : Int)).toNat = off := rfl
  have em : (min ((b0.drop off).take (b0.length - off)).length b3.length) = n := by simp only [List.length_take, List.length_drop]; omega
  have ec : ((b0.drop off).take (b0.length - off)).take n ++ b3.drop n = (b0.drop off).take n := by
   have h0 : b3.drop n = [] := List.drop_eq_nil_of_le (by omega)
   rw [h0, List.append_nil, List.take_take]
   congr 1; omega
  rw [cond_t (decide_eq_true (by omega)), cond_f (decide_eq_false (by omega)), need_pos ⟨⟨by omega, trivial⟩, by omega, Nat.le_refl _⟩, need_pos h3.symm, ef, em]
  simp only [Option.bind_some]
  rw [ec, need_pos (in64 (by omega) (by omega)), cond_t (decide_eq_true (by omega))]
  unfold p_ReadFull_k1
  rw [need_pos (in64 (by omega) (by omega)), cond_f (decide_eq_false (by omega)), show ((off : Int)) + (n : Int) = ((off + n : Nat) : Int) by omega]
  exact ⟨_, rfl⟩
 ·have hn : n = 0 := by omega
  subst hn
  rw [cond_f (decide_eq_false (by omega))]
  have : b3 = [] := List.eq_nil_of_length_eq_zero h3
  subst this
  exact ⟨_, rfl⟩
theorem fullA_p {n : Nat} {b0 : List Int} {off : Nat} {b2 : Int} {b3 : List Int} (h : off + n ≤ b0.length) (hb : b0.length ≤ 1000000000) (h3 : b3.length = n) : ∃ l, p_ReadFull_arr n b0 (off : Int) b2 b3 = some (.inr ((n : Int), b0, ((off + n : Nat) : Int), l, (b0.drop off).take n)) := by
 unfold p_ReadFull_arr
 by_cases h0 : 0 < n
 ·have ef : ((off : Int)).toNat = off := rfl
  have em : (min ((b0.drop off).take (b0.length - off)).length b3.length) = n := by simp only [List.length_take, List.length_drop]; omega
  have ec : ((b0.drop off).take (b0.length - off)).take n ++ b3.drop n = (b0.drop off).take n := by
   have h0 : b3.drop n = [] := List.drop_eq_nil_of_le (by omega)
   rw [h0, List.append_nil, List.take_take]
   congr 1; omega
  rw [cond_t (decide_eq_true (by omega)), cond_f (decide_eq_false (by omega)), need_pos ⟨⟨by omega, trivial⟩, by omega, Nat.le_refl _⟩, need_pos h3.symm, ef, em]
  simp only [Option.bind_some]
  rw [ec, need_pos (in64 (by omega) (by omega)), cond_t (decide_eq_true (by omega))]
  unfold p_ReadFull_arr_k1
  rw [need_pos (in64 (by omega) (by omega)), cond_f (decide_eq_false (by omega)), show ((off : Int)) + (n : Int) = ((off + n : Nat) : Int) by omega]
  exact ⟨_, rfl⟩
 ·have hn : n = 0 := by omega
  subst hn
  rw [cond_f (decide_eq_false (by omega))]
  have : b3 = [] := List.eq_nil_of_length_eq_zero h3
  subst this
  exact ⟨_, rfl⟩
theorem or32v {x0 x1 x2 x3 : Int} (h : AllB [x0, x1, x2, x3]) :
  bits .or .u32 (bits .or .u32 (bits .or .u32 (IntKind.u32.wrap x3) (IntKind.u32.wrap ((IntKind.u32.wrap x2) * 2 ^ 8))) (IntKind.u32.wrap ((IntKind.u32.wrap x1) * 2 ^ 16))) (IntKind.u32.wrap ((IntKind.u32.wrap x0) * 2 ^ 24)) = val [x0, x1, x2, x3] := by
 have h0 := h x0 (by simp); have h1 := h x1 (by simp); have h2 := h x2 (by simp); have h3 := h x3 (by simp)
 rw [wu32 h3.1 (by omega), orb32 8 (by omega) h3.1 (by omega) h2, orb32 16 (by omega) (by omega) (by omega) h1, orb32 24 (by omega) (by omega) (by omega) h0]
 simp only [val, List.foldl_cons, List.foldl_nil]
 omega
/-- A count that stands there. -/
def At (b0 : List Int) (off : Nat) (w : List Int) : Prop := (b0.drop off).take w.length = w ∧ off + w.length ≤ b0.length
theorem At.left {b0 w r : List Int} {off : Nat} (h : At b0 off (w ++ r)) : At b0 off w := by
 obtain ⟨h1, h2⟩ := h
 rw [List.length_append] at h1 h2
 refine ⟨?_, by omega⟩
 have := congrArg (List.take w.length) h1
 rw [List.take_take, List.take_left, Nat.min_eq_left (Nat.le_add_right _ _)] at this
 exact this
theorem At.right {b0 w r : List Int} {off : Nat} (h : At b0 off (w ++ r)) : At b0 (off + w.length) r := by
 obtain ⟨h1, h2⟩ := h
 rw [List.length_append] at h1 h2
 refine ⟨?_, by omega⟩
 have := congrArg (List.drop w.length) h1
 rw [List.drop_left, List.drop_take, List.drop_drop, Nat.add_sub_cancel_left] at this
 exact this
theorem At.all (b0 : List Int) : At b0 0 b0 := ⟨by simp, by simp⟩
theorem ru_b (u : TBinary_bigEndian) {b0 : List Int} {off : Nat} {b2 v : Int} (hb : b0.length ≤ 1000000000) (h0 : 0 ≤ v) (h1 : v < 4294967296) (h : At b0 off (c4 true v)) : ∃ l, p_ReadUInt32_bigEndian u b0 (off : Int) b2 = some (.inr (v, b0, ((off + 4 : Nat) : Int), l)) := by
 obtain ⟨ht, hle⟩ := h
 rw [c4_len] at ht hle
 obtain ⟨l, hl⟩ := fullA_p (n := 4) (b2 := b2) (b3 := [0, 0, 0, 0]) hle hb rfl
 unfold p_ReadUInt32_bigEndian
 rw [hl, Option.bind_some, ht]
 have i : ∀ (k : Nat) x, (c4 true v)[k]? = some x → idx (c4 true v) ((k : Nat) : Int) = some x := fun k x h => idx_get h
 have hc : c4 true v = [v / 2 ^ 24 % 256, v / 2 ^ 16 % 256, v / 2 ^ 8 % 256, v % 256] := rfl
 have j0 : idx (c4 true v) (0 : Int) = some (v / 2 ^ 24 % 256) := i 0 _ rfl
 have j1 : idx (c4 true v) (1 : Int) = some (v / 2 ^ 16 % 256) := i 1 _ rfl
 have j2 : idx (c4 true v) (2 : Int) = some (v / 2 ^ 8 % 256) := i 2 _ rfl
 have j3 : idx (c4 true v) (3 : Int) = some (v % 256) := i 3 _ rfl
 have hv : val [v / 2 ^ 24 % 256, v / 2 ^ 16 % 256, v / 2 ^ 8 % 256, v % 256] = v := val4 h0 h1
 have hA : AllB [v / 2 ^ 24 % 256, v / 2 ^ 16 % 256, v / 2 ^ 8 % 256, v % 256] := AllB.c4 true v
 simp only [Sum.elim_inr, j0, j1, j2, j3, Option.bind_some]
 repeat rw [need_pos (by omega)]
 rw [or32v hA, hv]
 exact ⟨_, rfl⟩
theorem ru_l (u : TBinary_bigEndian) {b0 : List Int} {off : Nat} {b2 v : Int} (hb : b0.length ≤ 1000000000) (h0 : 0 ≤ v) (h1 : v < 4294967296) (h : At b0 off (c4 false v)) : ∃ l, p_ReadUInt32_littleEndian u b0 (off : Int) b2 = some (.inr (v, b0, ((off + 4 : Nat) : Int), l)) := by
 obtain ⟨ht, hle⟩ := h
 rw [c4_len] at ht hle
 obtain ⟨l, hl⟩ := fullA_p (n := 4) (b2 := b2) (b3 := [0, 0, 0, 0]) hle hb rfl
 unfold p_ReadUInt32_littleEndian
 rw [hl, Option.bind_some, ht]
 have i : ∀ (k : Nat) x, (c4 false v)[k]? = some x → idx (c4 false v) ((k : Nat) : Int) = some x := fun k x h => idx_get h
 have j3 : idx (c4 false v) (3 : Int) = some (v / 2 ^ 24 % 256) := i 3 _ rfl
 have j2 : idx (c4 false v) (2 : Int) = some (v / 2 ^ 16 % 256) := i 2 _ rfl
 have j1 : idx (c4 false v) (1 : Int) = some (v / 2 ^ 8 % 256) := i 1 _ rfl
 have j0 : idx (c4 false v) (0 : Int) = some (v % 256) := i 0 _ rfl
 have hv : val [v / 2 ^ 24 % 256, v / 2 ^ 16 % 256, v / 2 ^ 8 % 256, v % 256] = v := val4 h0 h1
 have hA : AllB [v / 2 ^ 24 % 256, v / 2 ^ 16 % 256, v / 2 ^ 8 % 256, v % 256] := AllB.c4 true v
 simp only [Sum.elim_inr, j0, j1, j2, j3, Option.bind_some]
 repeat rw [need_pos (by omega)]
 rw [or32v hA, hv]
 exact ⟨_, rfl⟩
theorem fm_drop (big : Bool) : ∀ (l : List Nat) (i : Nat), (l.flatMap (n8 big)).drop (8 * i) = (l.drop i).flatMap (n8 big)
 | [], i => by simp
 | x :: r, 0 => by simp
 | x :: r, i + 1 => by
  rw [List.flatMap_cons, show 8 * (i + 1) = (n8 big x).length + 8 * i by rw [n8_len]; omega, ← List.drop_drop, List.drop_left, fm_drop big r i]
  rfl
theorem AllB.fm (big : Bool) (l : List Nat) : AllB (l.flatMap (Wk.n8 big)) := fun z hz => by
 obtain ⟨x, _, h⟩ := List.mem_flatMap.1 hz
 exact AllB.n8 big x z h
theorem set_next {α : Type} {L : List α} {z x : α} {i n : Nat} (hi : i < n) (hx : L[i]? = some x) : (L.take i ++ List.replicate (n - i) z).set i x = L.take (i + 1) ++ List.replicate (n - (i + 1)) z := by
 have hil := (List.getElem?_eq_some_iff.1 hx).1
 rw [List.set_append_right _ _ (by rw [List.length_take]; omega), List.length_take, Nat.min_eq_left (by omega), Nat.sub_self]
 rw [show n - i = (n - (i + 1)) + 1 by omega, List.replicate_succ, List.set_cons_zero, List.take_add_one, hx, Option.toList_some, List.append_assoc]
 rfl
theorem rf_loop_b {l : List Nat} (hx : ∀ x ∈ l, x < 18446744073709551616) (hl : l.length ≤ 40000) {y6 : Int × List Int × Int × Int × List Int} (hy : y6.2.2.2.2 = l.flatMap (n8 true)) : ∀ (F i : Nat), l.length - i < F → i ≤ l.length →
  iter (p_ReadFloatArray_bigEndian_l2 l.length y6) F ((i : Int), l.take i ++ List.replicate (l.length - i) 0) = some (.inl l) := by
 intro F
 induction F with
 | zero => intro i h; omega
 | succ F ih =>
  intro i h hi
  show p_ReadFloatArray_bigEndian_l2 l.length y6 (iter (p_ReadFloatArray_bigEndian_l2 l.length y6) F) _ = _
  generalize hK : iter (p_ReadFloatArray_bigEndian_l2 l.length y6) F = K at *
  unfold p_ReadFloatArray_bigEndian_l2
  dsimp only
  have hlen : (l.flatMap (n8 true)).length = 8 * l.length := fm_len true l
  by_cases hil : i < l.length
  ·obtain ⟨x, hxi⟩ : ∃ x, l[i]? = some x := ⟨_, List.getElem?_eq_getElem hil⟩
   have hxl := hx x (List.mem_of_getElem? hxi)
   have e8 : ((8 : Int) * (i : Int)).toNat = 8 * i := by omega
   rw [cond_t (decide_eq_true (by omega)), need_pos (in64 (by omega) (by omega)), hy, e8, need_pos ⟨⟨by omega, trivial⟩, by omega, Nat.le_refl _⟩, List.take_of_length_le (by rw [List.length_drop]; omega), fm_drop]
   have hd : l.drop i = x :: l.drop (i + 1) := by
    rw [List.drop_eq_getElem_cons hil]
    rw [List.getElem?_eq_getElem hil] at hxi
    rw [Option.some.inj hxi]
   have hb := be_p (u := TBinary_bigEndian.mk) (AllB.fm true (l.drop i)) (by rw [fm_len, List.length_drop]; omega)
   rw [hd, List.flatMap_cons, num8_n8 true hxl] at hb
   rw [hd, List.flatMap_cons, hb, Option.bind_some, need_pos (by omega), need_pos (by omega), need_pos (by simp; omega), show ((x : Int)).toNat = x from rfl, show ((i : Int)).toNat = i from rfl, set_next hil hxi, succ_cast, need_pos (in64 (by omega) (by omega))]
   exact ih (i + 1) (by omega) (by omega)
  ·have hie : i = l.length := by omega
   subst hie
   rw [cond_f (decide_eq_false (by omega)), List.take_of_length_le (Nat.le_refl _), Nat.sub_self]
   simp
theorem rf_loop_l {l : List Nat} (hx : ∀ x ∈ l, x < 18446744073709551616) (hl : l.length ≤ 40000) {y6 : Int × List Int × Int × Int × List Int} (hy : y6.2.2.2.2 = l.flatMap (n8 false)) : ∀ (F i : Nat), l.length - i < F → i ≤ l.length →
  iter (p_ReadFloatArray_littleEndian_l2 l.length y6) F ((i : Int), l.take i ++ List.replicate (l.length - i) 0) = some (.inl l) := by
 intro F
 induction F with
 | zero => intro i h; omega
 | succ F ih =>
  intro i h hi
  show p_ReadFloatArray_littleEndian_l2 l.length y6 (iter (p_ReadFloatArray_littleEndian_l2 l.length y6) F) _ = _
  generalize hK : iter (p_ReadFloatArray_littleEndian_l2 l.length y6) F = K at *
  unfold p_ReadFloatArray_littleEndian_l2
  dsimp only
  have hlen : (l.flatMap (n8 false)).length = 8 * l.length := fm_len false l
  by_cases hil : i < l.length
  ·obtain ⟨x, hxi⟩ : ∃ x, l[i]? = some x := ⟨_, List.getElem?_eq_getElem hil⟩
   have hxl := hx x (List.mem_of_getElem? hxi)
   have e8 : ((8 : Int) * (i : Int)).toNat = 8 * i := by omega
   rw [cond_t (decide_eq_true (by omega)), need_pos (in64 (by omega) (by omega)), hy, e8, need_pos ⟨⟨by omega, trivial⟩, by omega, Nat.le_refl _⟩, List.take_of_length_le (by rw [List.length_drop]; omega), fm_drop]
   have hd : l.drop i = x :: l.drop (i + 1) := by
    rw [List.drop_eq_getElem_cons hil]
    rw [List.getElem?_eq_getElem hil] at hxi
    rw [Option.some.inj hxi]
   have hb := le_p (u := TBinary_bigEndian.mk) (AllB.fm false (l.drop i)) (by rw [fm_len, List.length_drop]; omega)
   rw [hd, List.flatMap_cons, num8_n8 false hxl] at hb
   rw [hd, List.flatMap_cons, hb, Option.bind_some, need_pos (by omega), need_pos (by omega), need_pos (by simp; omega), show ((x : Int)).toNat = x from rfl, show ((i : Int)).toNat = i from rfl, set_next hil hxi, succ_cast, need_pos (in64 (by omega) (by omega))]
   exact ih (i + 1) (by omega) (by omega)
  ·have hie : i = l.length := by omega
   subst hie
   rw [cond_f (decide_eq_false (by omega)), List.take_of_length_le (Nat.le_refl _), Nat.sub_self]
   simp
theorem rf_b {F : Nat} (hF : 40001 < F) (u : TBinary_bigEndian) {l : List Nat} (hx : ∀ x ∈ l, x < 18446744073709551616) (hl : l.length ≤ 40000) {b0 : List Int} {off : Nat} {b2 : Int} (hb : b0.length ≤ 1000000000) (h : At b0 off (l.flatMap (n8 true))) :
  ∃ k, p_ReadFloatArray_bigEndian F u l.length b0 (off : Int) b2 (List.replicate l.length 0) = some (.inr (b0, ((off + 8 * l.length : Nat) : Int), k, l)) := by
 obtain ⟨ht, hle⟩ := h
 rw [fm_len] at ht hle
 have e : ((8 : Int) * ((l.length : Nat) : Int)).toNat = 8 * l.length := by omega
 obtain ⟨k, hk⟩ := full_p (n := 8 * l.length) (b2 := b2) (b3 := List.replicate (8 * l.length) 0) hle hb (by simp)
 unfold p_ReadFloatArray_bigEndian
 rw [need_pos (in64 (by omega) (by omega)), need_pos (by omega), e, hk, Option.bind_some, ht]
 simp only [Sum.elim_inr]
 rw [need_pos (by rw [fm_len])]
 have := rf_loop_b hx hl (y6 := (((8 * l.length : Nat) : Int), b0, ((off + 8 * l.length : Nat) : Int), k, l.flatMap (n8 true))) rfl F 0 (by omega) (by omega)
 rw [List.take_zero, Nat.sub_zero, List.nil_append] at this
 have t2 : iter (p_ReadFloatArray_bigEndian_l2 l.length (((8 * l.length : Nat) : Int), b0, ((off + 8 * l.length : Nat) : Int), k, l.flatMap (n8 true))) F ((0 : Int), List.replicate l.length 0) = some (.inl l) := this
 rw [t2, Option.bind_some, aft_inl]
 exact ⟨_, rfl⟩
theorem rf_l {F : Nat} (hF : 40001 < F) (u : TBinary_bigEndian) {l : List Nat} (hx : ∀ x ∈ l, x < 18446744073709551616) (hl : l.length ≤ 40000) {b0 : List Int} {off : Nat} {b2 : Int} (hb : b0.length ≤ 1000000000) (h : At b0 off (l.flatMap (n8 false))) :
  ∃ k, p_ReadFloatArray_littleEndian F u l.length b0 (off : Int) b2 (List.replicate l.length 0) = some (.inr (b0, ((off + 8 * l.length : Nat) : Int), k, l)) := by
 obtain ⟨ht, hle⟩ := h
 rw [fm_len] at ht hle
 have e : ((8 : Int) * ((l.length : Nat) : Int)).toNat = 8 * l.length := by omega
 obtain ⟨k, hk⟩ := full_p (n := 8 * l.length) (b2 := b2) (b3 := List.replicate (8 * l.length) 0) hle hb (by simp)
 unfold p_ReadFloatArray_littleEndian
 rw [need_pos (in64 (by omega) (by omega)), need_pos (by omega), e, hk, Option.bind_some, ht]
 simp only [Sum.elim_inr]
 rw [need_pos (by rw [fm_len])]
 have := rf_loop_l hx hl (y6 := (((8 * l.length : Nat) : Int), b0, ((off + 8 * l.length : Nat) : Int), k, l.flatMap (n8 false))) rfl F 0 (by omega) (by omega)
 rw [List.take_zero, Nat.sub_zero, List.nil_append] at this
 have t2 : iter (p_ReadFloatArray_littleEndian_l2 l.length (((8 * l.length : Nat) : Int), b0, ((off + 8 * l.length : Nat) : Int), k, l.flatMap (n8 false))) F ((0 : Int), List.replicate l.length 0) = some (.inl l) := this
 rw [t2, Option.bind_some, aft_inl]
 exact ⟨_, rfl⟩
end Go.Proofs.YtjhdpnjlphpboaaDoor.Wk

set_option linter.unusedVariables false
set_option linter.unusedSimpArgs false
namespace Go.Proofs.YtjhdpnjlphpboaaDoor.Wk
open Go.Vm
/-- The bytes of one row, of all. -/
def row8 (big : Bool) (t : Nat) (l : List Nat) : List Int := c4 big ((l.length / t : Nat) : Int) ++ l.flatMap (n8 big)
theorem row8_len (big : Bool) (t : Nat) (l : List Nat) : (row8 big t l).length = 4 + 8 * l.length := by unfold row8; rw [List.length_append, c4_len, fm_len]
/-- the rows, from a on -/
def cutF (t : Nat) (l : List Nat) : Nat → List Nat → List (List Nat)
 | _, [] => []
 | a, n :: r => (l.drop a).take (n * t) :: cutF t l (a + n * t) r
theorem cutF_len {t : Nat} {l : List Nat} : ∀ (ns : List Nat) (a : Nat), (cutF t l a ns).length = ns.length
 | [], a => rfl
 | n :: r, a => by simp [cutF, cutF_len r]
theorem cutF_get {t : Nat} {l : List Nat} : ∀ (ns : List Nat) (a i n : Nat), ns[i]? = some n → (cutF t l a ns)[i]? = some ((l.drop (fromF t a ns i)).take (n * t))
 | [], a, i, n, h => by simp at h
 | m :: r, a, 0, n, h => by simp at h; subst h; rfl
 | m :: r, a, i + 1, n, h => cutF_get r (a + m * t) i n (by simpa using h)
theorem cutF_join {t : Nat} {l : List Nat} : ∀ (ns : List Nat) (a : Nat), lastF t a ns ≤ l.length → (cutF t l a ns).flatten = (l.drop a).take (lastF t a ns - a)
 | [], a, h => by simp [cutF, lastF]
 | n :: r, a, h => by
  have h1 := lastF_le (t := t) r (a + n * t)
  rw [cutF, List.flatten_cons, cutF_join r (a + n * t) h]
  show _ = (l.drop a).take (lastF t (a + n * t) r - a)
  rw [← List.drop_drop, ← List.take_append_drop (n * t) ((l.drop a).take (lastF t (a + n * t) r - a)), List.take_take, List.drop_take, Nat.min_eq_left (by omega)]
  congr 2
  omega
theorem cut_div {t n a : Nat} (ht : 2 ≤ t) {l : List Nat} (h : a + n * t ≤ l.length) : ((l.drop a).take (n * t)).length = n * t ∧ ((l.drop a).take (n * t)).length / t = n := by
 have : ((l.drop a).take (n * t)).length = n * t := by rw [List.length_take, List.length_drop]; omega
 exact ⟨this, by rw [this, Nat.mul_div_cancel _ (by omega)]⟩
theorem tdiv_nat (a t : Nat) : Int.tdiv (a : Int) (t : Int) = ((a / t : Nat) : Int) := rfl
theorem wrap32 {n : Nat} (h : n < 4294967296) : IntKind.u32.wrap (n : Int) = n := wu32 (by omega) (by omega)
theorem wr1_b {F : Nat} (hF : 40001 < F) (u : TBinary_bigEndian) {x : List Nat} {t : Nat} (ht : 2 ≤ t) (hx : ∀ z ∈ x, z < 18446744073709551616) (hl : x.length ≤ 40000) {b1 : Int} {b2 : List Int} (h2 : b2.length ≤ 100000000) :
  p_WriteFlatCoords1_bigEndian F u x (t : Int) b1 b2 = some (0, b2 ++ row8 true t x) := by
 have hd : x.length / t ≤ x.length := Nat.div_le_self _ _
 unfold p_WriteFlatCoords1_bigEndian row8
 rw [tdiv_nat]
 generalize x.length / t = q at *
 rw [need_pos ⟨by omega, in64 (by omega) (by omega)⟩, wrap32 (by omega), wu32_b _ (by omega) (by omega), Option.bind_some]
 dsimp only
 rw [wfa_b hF _ hx hl (by rw [List.length_append, c4_len]; omega), Option.bind_some]
 dsimp only
 rw [List.append_assoc]
theorem wr1_l {F : Nat} (hF : 40001 < F) (u : TBinary_bigEndian) {x : List Nat} {t : Nat} (ht : 2 ≤ t) (hx : ∀ z ∈ x, z < 18446744073709551616) (hl : x.length ≤ 40000) {b1 : Int} {b2 : List Int} (h2 : b2.length ≤ 100000000) :
  p_WriteFlatCoords1_littleEndian F u x (t : Int) b1 b2 = some (0, b2 ++ row8 false t x) := by
 have hd : x.length / t ≤ x.length := Nat.div_le_self _ _
 unfold p_WriteFlatCoords1_littleEndian row8
 rw [tdiv_nat]
 generalize x.length / t = q at *
 rw [need_pos ⟨by omega, in64 (by omega) (by omega)⟩, wrap32 (by omega), wu32_l _ (by omega) (by omega), Option.bind_some]
 dsimp only
 rw [wfa_l hF _ hx hl (by rw [List.length_append, c4_len]; omega), Option.bind_some]
 dsimp only
 rw [List.append_assoc]
theorem rows_len (big : Bool) (t : Nat) : ∀ L : List (List Nat), (L.flatMap (row8 big t)).length = 4 * L.length + 8 * L.flatten.length
 | [] => rfl
 | x :: r => by rw [List.flatMap_cons, List.length_append, rows_len big t r, row8_len, List.flatten_cons, List.length_append, List.length_cons]; omega
theorem wr2_loop_b {G : Nat} (hG : 40001 < G) {l : List Nat} (hx : ∀ z ∈ l, z < 18446744073709551616) (hl : l.length ≤ 2000) {t : Nat} (ht : 2 ≤ t) {ns : List Nat} (hns : ns.length ≤ 2000) (hla : lastF t 0 ns ≤ l.length) {b : List Int} (hb : b.length ≤ 1000000) : ∀ (F i : Nat) (lr : Int), ns.length - i < F → i ≤ ns.length →
  ∃ lr', iter (p_WriteFlatCoords2_bigEndian_l2 l (endsF t 0 ns) (t : Int) G) F (((fromF t 0 ns i : Nat) : Int), (i : Int), lr, b ++ ((cutF t l 0 ns).take i).flatMap (row8 true t)) = some (.inl (lr', b ++ (cutF t l 0 ns).flatMap (row8 true t))) := by
 intro F
 induction F with
 | zero => intro i lr h; omega
 | succ F ih =>
  intro i lr h hi
  show ∃ lr', p_WriteFlatCoords2_bigEndian_l2 l (endsF t 0 ns) (t : Int) G (iter (p_WriteFlatCoords2_bigEndian_l2 l (endsF t 0 ns) (t : Int) G) F) _ = _
  generalize hK : iter (p_WriteFlatCoords2_bigEndian_l2 l (endsF t 0 ns) (t : Int) G) F = K at *
  unfold p_WriteFlatCoords2_bigEndian_l2
  dsimp only
  by_cases hil : i < ns.length
  ·obtain ⟨n, hn⟩ : ∃ n, ns[i]? = some n := ⟨_, List.getElem?_eq_getElem hil⟩
   obtain ⟨e1, _, e3, e4⟩ := at_F (t := t) (l := l) ns 0 i n hn
   have hc := cutF_get (t := t) (l := l) ns 0 i n hn
   have hd := (cut_div ht (n := n) (a := fromF t 0 ns i) (l := l) (by omega))
   have ej : (((fromF t 0 ns i + n * t : Nat) : Int)).toNat - (((fromF t 0 ns i : Nat) : Int)).toNat = n * t := by omega
   have hpre : (((cutF t l 0 ns).take i).flatMap (row8 true t)).length ≤ 4 * 2000 + 8 * 2000 := by
    rw [rows_len]
    have h1 : ((cutF t l 0 ns).take i).length ≤ ns.length := by rw [List.length_take, cutF_len]; omega
    have h2 : ((cutF t l 0 ns).take i).flatten.length ≤ (cutF t l 0 ns).flatten.length := by
     rw [← List.take_append_drop i (cutF t l 0 ns), List.flatten_append, List.take_left' (by rw [List.length_take, cutF_len]; omega)]
     simp
    have h3 : (cutF t l 0 ns).flatten.length ≤ l.length := by rw [cutF_join ns 0 hla]; simp; omega
    omega
   rw [cond_t (decide_eq_true (by rw [endsF_len]; omega)), idx_get e1, Option.bind_some, need_pos (by omega), ej, show (((fromF t 0 ns i : Nat) : Int)).toNat = fromF t 0 ns i from rfl,
    wr1_b hG _ ht (fun z hz => hx z (List.mem_of_mem_drop (List.mem_of_mem_take hz))) (by rw [hd.1]; omega) (by rw [List.length_append]; omega), Option.bind_some, succ_cast, need_pos (in64 (by omega) (by omega))]
   dsimp only
   have := ih (i + 1) 0 (by omega) (by omega)
   rw [List.take_add_one, hc, Option.toList_some, List.flatMap_append, List.flatMap_cons, List.flatMap_nil, List.append_nil, e3, ← List.append_assoc] at this
   exact this
  ·have hie : i = ns.length := by omega
   subst hie
   rw [cond_f (decide_eq_false (by rw [endsF_len]; omega)), List.take_of_length_le (by rw [cutF_len]; omega)]
   exact ⟨_, rfl⟩
theorem wr2_b {F : Nat} (hF : 40001 < F) (u : TBinary_bigEndian) {l : List Nat} (hx : ∀ z ∈ l, z < 18446744073709551616) (hl : l.length ≤ 2000) {t : Nat} (ht : 2 ≤ t) {ns : List Nat} (hns : ns.length ≤ 2000) (hla : lastF t 0 ns ≤ l.length) {b0 : Int} :
  ∃ lr, p_WriteFlatCoords2_bigEndian F u l (endsF t 0 ns) (t : Int) b0 [] = some (lr, c4 true (ns.length : Int) ++ (cutF t l 0 ns).flatMap (row8 true t)) := by
 unfold p_WriteFlatCoords2_bigEndian
 rw [endsF_len, wrap32 (by omega), wu32_b _ (by omega) (by simp), Option.bind_some]
 dsimp only
 obtain ⟨lr, h⟩ := wr2_loop_b hF hx hl ht hns hla (b := c4 true (ns.length : Int)) (by rw [c4_len]; omega) F 0 0 (by omega) (by omega)
 rw [List.take_zero, List.flatMap_nil, List.append_nil, from0] at h
 have h2 : iter (p_WriteFlatCoords2_bigEndian_l2 l (endsF t 0 ns) (t : Int) F) F ((0 : Int), (0 : Int), (0 : Int), [] ++ c4 true (ns.length : Int)) = some (.inl (lr, c4 true (ns.length : Int) ++ (cutF t l 0 ns).flatMap (row8 true t))) := h
 rw [h2, Option.bind_some, aft_inl]
 exact ⟨lr, rfl⟩
theorem rd1_b {F : Nat} (hF : 40001 < F) (u : TBinary_bigEndian) {x : List Nat} {t : Nat} (ht : 2 ≤ t) (hx : ∀ z ∈ x, z < 18446744073709551616) (hl : x.length ≤ 40000) (hd : x.length / t * t = x.length) {b0 : List Int} {off : Nat} {b2 : Int} (hb : b0.length ≤ 1000000000) (h : At b0 off (row8 true t x)) :
  ∃ k, p_ReadFlatCoords1_bigEndian F u (t : Int) b0 (off : Int) b2 = some (.inr (x, b0, ((off + (4 + 8 * x.length) : Nat) : Int), k)) := by
 have hq : x.length / t ≤ x.length := Nat.div_le_self _ _
 have hA : At b0 off (c4 true ((x.length / t : Nat) : Int)) := h.left
 have hB : At b0 (off + (c4 true ((x.length / t : Nat) : Int)).length) (x.flatMap (n8 true)) := h.right
 clear h
 rw [c4_len] at hB
 generalize x.length / t = q at *
 obtain ⟨k, hk⟩ := ru_b u (b2 := b2) hb (by omega) (by omega) hA
 unfold p_ReadFlatCoords1_bigEndian
 have hw : IntKind.i64.wrap ((q : Nat) : Int) * (t : Int) = (x.length : Int) := by
  rw [wi64 (by omega) (by omega), ← Int.natCast_mul, hd]
 have hz : ((x.length : Int)).toNat = x.length := rfl
 obtain ⟨k2, hk2⟩ := rf_b hF u (b2 := k) hx hl hb hB
 rw [hk, Option.bind_some]
 simp only [Sum.elim_inr]
 rw [hw, need_pos (in64 (by omega) (by omega)), need_pos (by omega), hz, hk2, Option.bind_some]
 simp only [Sum.elim_inr]
 rw [need_pos trivial]
 exact ⟨k2, by congr 6; omega⟩
theorem rd2_loop_b {G : Nat} (hG : 40001 < G) {t : Nat} (ht : 2 ≤ t) {l : List Nat} (hx : ∀ z ∈ l, z < 18446744073709551616) (hl : l.length ≤ 2000) {ns : List Nat} (hns : ns.length ≤ 2000) (hla : lastF t 0 ns = l.length) {b0 : List Int} (hb : b0.length ≤ 1000000000) {y4 : Int × List Int × Int × Int} (hy : y4.1 = (ns.length : Int)) : ∀ (F i : Nat) (off : Nat) (k : Int), ns.length - i < F → i ≤ ns.length →
  At b0 off (((cutF t l 0 ns).drop i).flatMap (row8 true t)) →
  ∃ k', iter (p_ReadFlatCoords2_bigEndian_l2 (t : Int) G y4) F ((i : Int), b0, (off : Int), k, (endsF t 0 ns).take i ++ List.replicate (ns.length - i) 0, l.take (fromF t 0 ns i)) = some (.inl (b0, ((off + (((cutF t l 0 ns).drop i).flatMap (row8 true t)).length : Nat) : Int), k', endsF t 0 ns, l)) := by
 intro F
 induction F with
 | zero => intro i off k h; omega
 | succ F ih =>
  intro i off k h hi hat
  show ∃ k', p_ReadFlatCoords2_bigEndian_l2 (t : Int) G y4 (iter (p_ReadFlatCoords2_bigEndian_l2 (t : Int) G y4) F) _ = _
  generalize hK : iter (p_ReadFlatCoords2_bigEndian_l2 (t : Int) G y4) F = K at *
  unfold p_ReadFlatCoords2_bigEndian_l2
  dsimp only
  by_cases hil : i < ns.length
  ·obtain ⟨n, hn⟩ : ∃ n, ns[i]? = some n := ⟨_, List.getElem?_eq_getElem hil⟩
   obtain ⟨e1, _, e3, e4⟩ := at_F (t := t) (l := l) ns 0 i n hn
   have hc := cutF_get (t := t) (l := l) ns 0 i n hn
   have hd := (cut_div ht (n := n) (a := fromF t 0 ns i) (l := l) (by omega))
   have hcut : (cutF t l 0 ns).drop i = (l.drop (fromF t 0 ns i)).take (n * t) :: (cutF t l 0 ns).drop (i + 1) := by
    have hlt := (List.getElem?_eq_some_iff.1 hc).1
    rw [List.drop_eq_getElem_cons hlt]
    rw [List.getElem?_eq_getElem hlt] at hc
    rw [Option.some.inj hc]
   rw [hcut, List.flatMap_cons] at hat
   obtain ⟨k2, hk2⟩ := rd1_b hG TBinary_bigEndian.mk ht (fun z hz => hx z (List.mem_of_mem_drop (List.mem_of_mem_take hz))) (by rw [hd.1]; omega) (by rw [hd.2, hd.1]) (b2 := k) hb hat.left
   have hjoin : l.take (fromF t 0 ns i) ++ (l.drop (fromF t 0 ns i)).take (n * t) = l.take (fromF t 0 ns (i + 1)) := by
    rw [e3, List.take_add]
   have hlen : ((l.take (fromF t 0 ns (i + 1))).length : Nat) = fromF t 0 ns i + n * t := by rw [e3, List.length_take]; omega
   rw [cond_t (decide_eq_true (by omega)), hk2, Option.bind_some]
   simp only [Sum.elim_inr]
   rw [hjoin, hy, need_pos (by rw [List.length_take, hd.1]; omega), need_pos (by omega), need_pos (by simp [endsF_len]; omega), succ_cast, need_pos ⟨by simp only [lo]; omega, by simp only [Go.Vm.hi]; omega⟩, hlen, show ((i : Int)).toNat = i from rfl, set_next hil e1]
   have hr := hat.right
   rw [row8_len] at hr
   obtain ⟨k3, hk3⟩ := ih (i + 1) _ k2 (by omega) (by omega) hr
   refine ⟨k3, ?_⟩
   rw [hk3, hcut, List.flatMap_cons, List.length_append, row8_len]
   congr 4
   omega
  ·have hie : i = ns.length := by omega
   subst hie
   have hfl : ∀ (ns : List Nat) (a : Nat), fromF t a ns ns.length = lastF t a ns := by
    intro ns
    induction ns with
    | nil => intro a; rfl
    | cons n r ih => intro a; exact ih (a + n * t)
   rw [cond_f (decide_eq_false (by omega)), hfl, hla, List.take_of_length_le (Nat.le_refl _), List.take_of_length_le (by rw [endsF_len]; omega), List.drop_of_length_le (by rw [cutF_len]; omega), Nat.sub_self]
   exact ⟨k, by simp⟩
theorem rd2_b {F : Nat} (hF : 40001 < F) (u : TBinary_bigEndian) {t : Nat} (ht : 2 ≤ t) {l : List Nat} (hx : ∀ z ∈ l, z < 18446744073709551616) (hl : l.length ≤ 2000) {ns : List Nat} (hns : ns.length ≤ 2000) (hla : lastF t 0 ns = l.length) {b0 : List Int} (hb : b0.length ≤ 1000000000) {off : Nat} {b2 : Int} (h : At b0 off (c4 true (ns.length : Int) ++ (cutF t l 0 ns).flatMap (row8 true t))) :
  ∃ k, p_ReadFlatCoords2_bigEndian F u (t : Int) b0 (off : Int) b2 = some (.inr (l, endsF t 0 ns, b0, ((off + (4 + ((cutF t l 0 ns).flatMap (row8 true t)).length) : Nat) : Int), k)) := by
 have hA := h.left
 have hB := h.right
 rw [c4_len] at hB
 obtain ⟨k, hk⟩ := ru_b u (b2 := b2) hb (by omega) (by omega) hA
 unfold p_ReadFlatCoords2_bigEndian
 rw [hk, Option.bind_some]
 simp only [Sum.elim_inr]
 rw [need_pos (by omega), show ((ns.length : Int)).toNat = ns.length from rfl]
 obtain ⟨k2, hk2⟩ := rd2_loop_b hF ht hx hl hns hla hb (y4 := ((ns.length : Int), b0, ((off + 4 : Nat) : Int), k)) rfl F 0 (off + 4) k (by omega) (by omega) hB
 rw [List.take_zero, List.nil_append, Nat.sub_zero, from0, List.take_zero, List.drop_zero] at hk2
 have h2 : iter (p_ReadFlatCoords2_bigEndian_l2 (t : Int) F ((ns.length : Int), b0, ((off + 4 : Nat) : Int), k)) F ((0 : Int), b0, ((off + 4 : Nat) : Int), k, List.replicate ns.length 0, []) = _ := hk2
 rw [h2, Option.bind_some, aft_inl]
 unfold p_ReadFlatCoords2_bigEndian_k1
 dsimp only
 rw [need_pos (by rw [endsF_len]; rfl)]
 exact ⟨k2, by congr 6; omega⟩
theorem wr2_loop_l {G : Nat} (hG : 40001 < G) {l : List Nat} (hx : ∀ z ∈ l, z < 18446744073709551616) (hl : l.length ≤ 2000) {t : Nat} (ht : 2 ≤ t) {ns : List Nat} (hns : ns.length ≤ 2000) (hla : lastF t 0 ns ≤ l.length) {b : List Int} (hb : b.length ≤ 1000000) : ∀ (F i : Nat) (lr : Int), ns.length - i < F → i ≤ ns.length →
  ∃ lr', iter (p_WriteFlatCoords2_littleEndian_l2 l (endsF t 0 ns) (t : Int) G) F (((fromF t 0 ns i : Nat) : Int), (i : Int), lr, b ++ ((cutF t l 0 ns).take i).flatMap (row8 false t)) = some (.inl (lr', b ++ (cutF t l 0 ns).flatMap (row8 false t))) := by
 intro F
 induction F with
 | zero => intro i lr h; omega
 | succ F ih =>
  intro i lr h hi
  show ∃ lr', p_WriteFlatCoords2_littleEndian_l2 l (endsF t 0 ns) (t : Int) G (iter (p_WriteFlatCoords2_littleEndian_l2 l (endsF t 0 ns) (t : Int) G) F) _ = _
  generalize hK : iter (p_WriteFlatCoords2_littleEndian_l2 l (endsF t 0 ns) (t : Int) G) F = K at *
  unfold p_WriteFlatCoords2_littleEndian_l2
  dsimp only
  by_cases hil : i < ns.length
  ·obtain ⟨n, hn⟩ : ∃ n, ns[i]? = some n := ⟨_, List.getElem?_eq_getElem hil⟩
   obtain ⟨e1, _, e3, e4⟩ := at_F (t := t) (l := l) ns 0 i n hn
   have hc := cutF_get (t := t) (l := l) ns 0 i n hn
   have hd := (cut_div ht (n := n) (a := fromF t 0 ns i) (l := l) (by omega))
   have ej : (((fromF t 0 ns i + n * t : Nat) : Int)).toNat - (((fromF t 0 ns i : Nat) : Int)).toNat = n * t := by omega
   have hpre : (((cutF t l 0 ns).take i).flatMap (row8 false t)).length ≤ 4 * 2000 + 8 * 2000 := by
    rw [rows_len]
    have h1 : ((cutF t l 0 ns).take i).length ≤ ns.length := by rw [List.length_take, cutF_len]; omega
    have h2 : ((cutF t l 0 ns).take i).flatten.length ≤ (cutF t l 0 ns).flatten.length := by
     rw [← List.take_append_drop i (cutF t l 0 ns), List.flatten_append, List.take_left' (by rw [List.length_take, cutF_len]; omega)]
     simp
    have h3 : (cutF t l 0 ns).flatten.length ≤ l.length := by rw [cutF_join ns 0 hla]; simp; omega
    omega
   rw [cond_t (decide_eq_true (by rw [endsF_len]; omega)), idx_get e1, Option.bind_some, need_pos (by omega), ej, show (((fromF t 0 ns i : Nat) : Int)).toNat = fromF t 0 ns i from rfl,
    wr1_l hG _ ht (fun z hz => hx z (List.mem_of_mem_drop (List.mem_of_mem_take hz))) (by rw [hd.1]; omega) (by rw [List.length_append]; omega), Option.bind_some, succ_cast, need_pos (in64 (by omega) (by omega))]
   dsimp only
   have := ih (i + 1) 0 (by omega) (by omega)
   rw [List.take_add_one, hc, Option.toList_some, List.flatMap_append, List.flatMap_cons, List.flatMap_nil, List.append_nil, e3, ← List.append_assoc] at this
   exact this
  ·have hie : i = ns.length := by omega
   subst hie
   rw [cond_f (decide_eq_false (by rw [endsF_len]; omega)), List.take_of_length_le (by rw [cutF_len]; omega)]
   exact ⟨_, rfl⟩
theorem wr2_l {F : Nat} (hF : 40001 < F) (u : TBinary_bigEndian) {l : List Nat} (hx : ∀ z ∈ l, z < 18446744073709551616) (hl : l.length ≤ 2000) {t : Nat} (ht : 2 ≤ t) {ns : List Nat} (hns : ns.length ≤ 2000) (hla : lastF t 0 ns ≤ l.length) {b0 : Int} :
  ∃ lr, p_WriteFlatCoords2_littleEndian F u l (endsF t 0 ns) (t : Int) b0 [] = some (lr, c4 false (ns.length : Int) ++ (cutF t l 0 ns).flatMap (row8 false t)) := by
 unfold p_WriteFlatCoords2_littleEndian
 rw [endsF_len, wrap32 (by omega), wu32_l _ (by omega) (by simp), Option.bind_some]
 dsimp only
 obtain ⟨lr, h⟩ := wr2_loop_l hF hx hl ht hns hla (b := c4 false (ns.length : Int)) (by rw [c4_len]; omega) F 0 0 (by omega) (by omega)
 rw [List.take_zero, List.flatMap_nil, List.append_nil, from0] at h
 have h2 : iter (p_WriteFlatCoords2_littleEndian_l2 l (endsF t 0 ns) (t : Int) F) F ((0 : Int), (0 : Int), (0 : Int), [] ++ c4 false (ns.length : Int)) = some (.inl (lr, c4 false (ns.length : Int) ++ (cutF t l 0 ns).flatMap (row8 false t))) := h
 rw [h2, Option.bind_some, aft_inl]
 exact ⟨lr, rfl⟩
theorem rd1_l {F : Nat} (hF : 40001 < F) (u : TBinary_bigEndian) {x : List Nat} {t : Nat} (ht : 2 ≤ t) (hx : ∀ z ∈ x, z < 18446744073709551616) (hl : x.length ≤ 40000) (hd : x.length / t * t = x.length) {b0 : List Int} {off : Nat} {b2 : Int} (hb : b0.length ≤ 1000000000) (h : At b0 off (row8 false t x)) :
  ∃ k, p_ReadFlatCoords1_littleEndian F u (t : Int) b0 (off : Int) b2 = some (.inr (x, b0, ((off + (4 + 8 * x.length) : Nat) : Int), k)) := by
 have hq : x.length / t ≤ x.length := Nat.div_le_self _ _
 have hA : At b0 off (c4 false ((x.length / t : Nat) : Int)) := h.left
 have hB : At b0 (off + (c4 false ((x.length / t : Nat) : Int)).length) (x.flatMap (n8 false)) := h.right
 clear h
 rw [c4_len] at hB
 generalize x.length / t = q at *
 obtain ⟨k, hk⟩ := ru_l u (b2 := b2) hb (by omega) (by omega) hA
 unfold p_ReadFlatCoords1_littleEndian
 have hw : IntKind.i64.wrap ((q : Nat) : Int) * (t : Int) = (x.length : Int) := by
  rw [wi64 (by omega) (by omega), ← Int.natCast_mul, hd]
 have hz : ((x.length : Int)).toNat = x.length := rfl
 obtain ⟨k2, hk2⟩ := rf_l hF u (b2 := k) hx hl hb hB
 rw [hk, Option.bind_some]
 simp only [Sum.elim_inr]
 rw [hw, need_pos (in64 (by omega) (by omega)), need_pos (by omega), hz, hk2, Option.bind_some]
 simp only [Sum.elim_inr]
 rw [need_pos trivial]
 exact ⟨k2, by congr 6; omega⟩
theorem rd2_loop_l {G : Nat} (hG : 40001 < G) {t : Nat} (ht : 2 ≤ t) {l : List Nat} (hx : ∀ z ∈ l, z < 18446744073709551616) (hl : l.length ≤ 2000) {ns : List Nat} (hns : ns.length ≤ 2000) (hla : lastF t 0 ns = l.length) {b0 : List Int} (hb : b0.length ≤ 1000000000) {y4 : Int × List Int × Int × Int} (hy : y4.1 = (ns.length : Int)) : ∀ (F i : Nat) (off : Nat) (k : Int), ns.length - i < F → i ≤ ns.length →
  At b0 off (((cutF t l 0 ns).drop i).flatMap (row8 false t)) →
  ∃ k', iter (p_ReadFlatCoords2_littleEndian_l2 (t : Int) G y4) F ((i : Int), b0, (off : Int), k, (endsF t 0 ns).take i ++ List.replicate (ns.length - i) 0, l.take (fromF t 0 ns i)) = some (.inl (b0, ((off + (((cutF t l 0 ns).drop i).flatMap (row8 false t)).length : Nat) : Int), k', endsF t 0 ns, l)) := by
 intro F
 induction F with
 | zero => intro i off k h; omega
 | succ F ih =>
  intro i off k h hi hat
  show ∃ k', p_ReadFlatCoords2_littleEndian_l2 (t : Int) G y4 (iter (p_ReadFlatCoords2_littleEndian_l2 (t : Int) G y4) F) _ = _
  generalize hK : iter (p_ReadFlatCoords2_littleEndian_l2 (t : Int) G y4) F = K at *
  unfold p_ReadFlatCoords2_littleEndian_l2
  dsimp only
  by_cases hil : i < ns.length
  ·obtain ⟨n, hn⟩ : ∃ n, ns[i]? = some n := ⟨_, List.getElem?_eq_getElem hil⟩
   obtain ⟨e1, _, e3, e4⟩ := at_F (t := t) (l := l) ns 0 i n hn
   have hc := cutF_get (t := t) (l := l) ns 0 i n hn
   have hd := (cut_div ht (n := n) (a := fromF t 0 ns i) (l := l) (by omega))
   have hcut : (cutF t l 0 ns).drop i = (l.drop (fromF t 0 ns i)).take (n * t) :: (cutF t l 0 ns).drop (i + 1) := by
    have hlt := (List.getElem?_eq_some_iff.1 hc).1
    rw [List.drop_eq_getElem_cons hlt]
    rw [List.getElem?_eq_getElem hlt] at hc
    rw [Option.some.inj hc]
   rw [hcut, List.flatMap_cons] at hat
   obtain ⟨k2, hk2⟩ := rd1_l hG TBinary_bigEndian.mk ht (fun z hz => hx z (List.mem_of_mem_drop (List.mem_of_mem_take hz))) (by rw [hd.1]; omega) (by rw [hd.2, hd.1]) (b2 := k) hb hat.left
   have hjoin : l.take (fromF t 0 ns i) ++ (l.drop (fromF t 0 ns i)).take (n * t) = l.take (fromF t 0 ns (i + 1)) := by
    rw [e3, List.take_add]
   have hlen : ((l.take (fromF t 0 ns (i + 1))).length : Nat) = fromF t 0 ns i + n * t := by rw [e3, List.length_take]; omega
   rw [cond_t (decide_eq_true (by omega)), hk2, Option.bind_some]
   simp only [Sum.elim_inr]
   rw [hjoin, hy, need_pos (by rw [List.length_take, hd.1]; omega), need_pos (by omega), need_pos (by simp [endsF_len]; omega), succ_cast, need_pos ⟨by simp only [lo]; omega, by simp only [Go.Vm.hi]; omega⟩, hlen, show ((i : Int)).toNat = i from rfl, set_next hil e1]
   have hr := hat.right
   rw [row8_len] at hr
   obtain ⟨k3, hk3⟩ := ih (i + 1) _ k2 (by omega) (by omega) hr
   refine ⟨k3, ?_⟩
   rw [hk3, hcut, List.flatMap_cons, List.length_append, row8_len]
   congr 4
   omega
  ·have hie : i = ns.length := by omega
   subst hie
   have hfl : ∀ (ns : List Nat) (a : Nat), fromF t a ns ns.length = lastF t a ns := by
    intro ns
    induction ns with
    | nil => intro a; rfl
    | cons n r ih => intro a; exact ih (a + n * t)
   rw [cond_f (decide_eq_false (by omega)), hfl, hla, List.take_of_length_le (Nat.le_refl _), List.take_of_length_le (by rw [endsF_len]; omega), List.drop_of_length_le (by rw [cutF_len]; omega), Nat.sub_self]
   exact ⟨k, by simp⟩
theorem rd2_l {F : Nat} (hF : 40001 < F) (u : TBinary_bigEndian) {t : Nat} (ht : 2 ≤ t) {l : List Nat} (hx : ∀ z ∈ l, z < 18446744073709551616) (hl : l.length ≤ 2000) {ns : List Nat} (hns : ns.length ≤ 2000) (hla : lastF t 0 ns = l.length) {b0 : List Int} (hb : b0.length ≤ 1000000000) {off : Nat} {b2 : Int} (h : At b0 off (c4 false (ns.length : Int) ++ (cutF t l 0 ns).flatMap (row8 false t))) :
  ∃ k, p_ReadFlatCoords2_littleEndian F u (t : Int) b0 (off : Int) b2 = some (.inr (l, endsF t 0 ns, b0, ((off + (4 + ((cutF t l 0 ns).flatMap (row8 false t)).length) : Nat) : Int), k)) := by
 have hA := h.left
 have hB := h.right
 rw [c4_len] at hB
 obtain ⟨k, hk⟩ := ru_l u (b2 := b2) hb (by omega) (by omega) hA
 unfold p_ReadFlatCoords2_littleEndian
 rw [hk, Option.bind_some]
 simp only [Sum.elim_inr]
 rw [need_pos (by omega), show ((ns.length : Int)).toNat = ns.length from rfl]
 obtain ⟨k2, hk2⟩ := rd2_loop_l hF ht hx hl hns hla hb (y4 := ((ns.length : Int), b0, ((off + 4 : Nat) : Int), k)) rfl F 0 (off + 4) k (by omega) (by omega) hB
 rw [List.take_zero, List.nil_append, Nat.sub_zero, from0, List.take_zero, List.drop_zero] at hk2
 have h2 : iter (p_ReadFlatCoords2_littleEndian_l2 (t : Int) F ((ns.length : Int), b0, ((off + 4 : Nat) : Int), k)) F ((0 : Int), b0, ((off + 4 : Nat) : Int), k, List.replicate ns.length 0, []) = _ := hk2
 rw [h2, Option.bind_some, aft_inl]
 unfold p_ReadFlatCoords2_littleEndian_k1
 dsimp only
 rw [need_pos (by rw [endsF_len]; rfl)]
 exact ⟨k2, by congr 6; omega⟩
end Go.Proofs.YtjhdpnjlphpboaaDoor.Wk

set_option linter.unusedVariables false
set_option linter.unusedSimpArgs false
namespace Go.Proofs.YtjhdpnjlphpboaaDoor.Wk
open Go.Vm
theorem sameW_p {F : Nat} (l : List Nat) (hl : l.length ≤ 40000) (hF : 40010 < F) : p_SameFloats F l l = some true := by
 unfold p_SameFloats
 rw [cond_f (nF rfl)]
 have hs := scan_loop0 l (p_SameFloats_l2 l l) (fun _ => true) false
  (fun K k hk => by unfold p_SameFloats_l2; rw [cond_f (decide_eq_false (by omega))])
  (fun K k x hx => by
   have hk := (List.getElem?_eq_some_iff.1 hx).1
   unfold p_SameFloats_l2
   rw [cond_t (decide_eq_true (by omega)), idx_get hx, Option.bind_some, Option.bind_some, cond_f (nF rfl), succ_cast, need_pos (in64m (by omega) (by omega)), if_pos rfl]) (F := F) (by omega)
 have : (l.all fun _ => true) = true := by simp
 rw [if_pos this] at hs
 rw [hs, Option.bind_some, aft_inl]
 rfl
theorem sameI_p {F : Nat} (l : List Int) (hl : l.length ≤ 40000) (hF : 40010 < F) : p_gInts F l l = some true := by
 unfold p_gInts
 rw [cond_f (nF rfl)]
 have hs := scan_loop0 l (p_gInts_l2 l l) (fun _ => true) false
  (fun K k hk => by unfold p_gInts_l2; rw [cond_f (decide_eq_false (by omega))])
  (fun K k x hx => by
   have hk := (List.getElem?_eq_some_iff.1 hx).1
   unfold p_gInts_l2
   rw [cond_t (decide_eq_true (by omega)), idx_get hx, Option.bind_some, Option.bind_some, cond_f (nF rfl), succ_cast, need_pos (in64m (by omega) (by omega)), if_pos rfl]) (F := F) (by omega)
 have : (l.all fun _ => true) = true := by simp
 rw [if_pos this] at hs
 rw [hs, Option.bind_some, aft_inl]
 rfl
theorem want_loop {G : Nat} (hG : 40010 < G) {l : List Nat} (hl : l.length ≤ 2000) {s : Int} {t : Nat} (hst : s = (t : Int)) (ht : 2 ≤ t) {ns : List Nat} (hns : ns.length ≤ 2000) (hla : lastF t 0 ns ≤ l.length) (big : Bool) {b : List Int} (hb : b.length ≤ 1000000) : ∀ (F i : Nat), ns.length - i < F → i ≤ ns.length →
  iter (p_FnWriteFlat2_l3 s big G ((List.range ns.length).map (partF l s t ns))) F ((i : Int), b ++ ((cutF t l 0 ns).take i).flatMap (row8 big t)) = some (.inl (b ++ (cutF t l 0 ns).flatMap (row8 big t))) := by
 subst hst
 intro F
 induction F with
 | zero => intro i h; omega
 | succ F ih =>
  intro i h hi
  show p_FnWriteFlat2_l3 (t : Int) big G ((List.range ns.length).map (partF l (t : Int) t ns)) (iter (p_FnWriteFlat2_l3 (t : Int) big G ((List.range ns.length).map (partF l (t : Int) t ns))) F) _ = _
  generalize hK : iter (p_FnWriteFlat2_l3 (t : Int) big G ((List.range ns.length).map (partF l (t : Int) t ns))) F = K at *
  unfold p_FnWriteFlat2_l3
  dsimp only
  have hM : ((List.range ns.length).map (partF l (t : Int) t ns)).length = ns.length := by simp
  by_cases hil : i < ns.length
  ·obtain ⟨n, hn⟩ : ∃ n, ns[i]? = some n := ⟨_, List.getElem?_eq_getElem hil⟩
   obtain ⟨e1, _, e3, e4⟩ := at_F (t := t) (l := l) ns 0 i n hn
   have hc := cutF_get (t := t) (l := l) ns 0 i n hn
   have hd := (cut_div ht (n := n) (a := fromF t 0 ns i) (l := l) (by omega))
   have hg : ((List.range ns.length).map (partF l (t : Int) t ns))[i]? = some ⟨8, layF (t : Int), 0, (l.drop (fromF t 0 ns i)).take (n * t), [], [], []⟩ := by
    rw [List.getElem?_map, List.getElem?_range hil]
    simp [partF, List.getD_eq_getElem?_getD, hn]
   have hpre : (((cutF t l 0 ns).take i).flatMap (row8 big t)).length ≤ 4 * 2000 + 8 * 2000 := by
    rw [rows_len]
    have h1 : ((cutF t l 0 ns).take i).length ≤ ns.length := by rw [List.length_take, cutF_len]; omega
    have h2 : ((cutF t l 0 ns).take i).flatten.length ≤ (cutF t l 0 ns).flatten.length := by
     rw [← List.take_append_drop i (cutF t l 0 ns), List.flatten_append, List.take_left' (by rw [List.length_take, cutF_len]; omega)]
     simp
    have h3 : (cutF t l 0 ns).flatten.length ≤ l.length := by rw [cutF_join ns 0 hla]; simp; omega
    omega
   rw [cond_t (decide_eq_true (by rw [hM]; omega)), idx_get hg, Option.bind_some]
   dsimp only
   have hnt : n ≤ n * t := Nat.le_mul_of_pos_right n (by omega)
   rw [tdiv_nat, hd.2, need_pos ⟨by omega, in64 (by omega) (by omega)⟩, wrap32 (by omega), cb_p (by omega) (by omega) (by omega), Option.bind_some, need_pos (by rw [List.length_append, c4_len]; omega), bo_p (by rw [hd.1]; omega) hG, Option.bind_some, need_pos (by rw [List.length_append, List.length_append, c4_len, fm_len, hd.1]; omega), succ_cast, need_pos (in64 (by omega) (by omega))]
   have := ih (i + 1) (by omega) (by omega)
   rw [List.take_add_one, hc, Option.toList_some, List.flatMap_append, List.flatMap_cons, List.flatMap_nil, List.append_nil, ← List.append_assoc, row8, hd.2, ← List.append_assoc] at this
   exact this
  ·have hie : i = ns.length := by omega
   subst hie
   rw [cond_f (decide_eq_false (by rw [hM]; omega)), List.take_of_length_le (by rw [cutF_len]; omega)]
theorem write_p {F : Nat} (hF : 40001 < F) {l : List Nat} (hx : ∀ z ∈ l, z < 18446744073709551616) (hl : l.length ≤ 2000) {t : Nat} (ht : 2 ≤ t) {ns : List Nat} (hns : ns.length ≤ 2000) (hla : lastF t 0 ns ≤ l.length) (big : Bool) :
  p_WriteFlat2 F l (endsF t 0 ns) (t : Int) big = some (c4 big (ns.length : Int) ++ (cutF t l 0 ns).flatMap (row8 big t), true) := by
 have fin : ∀ (w : List Int) (lr : Int), ((p_Buffer_Bytes (TBytes_Buffer.mk w (0 : Int) lr)).bind fun y6 => some (y6, true)) = some (w, true) := fun w lr => by
  unfold p_Buffer_Bytes
  dsimp only
  rw [need_pos ⟨⟨by omega, trivial⟩, by simp, Nat.le_refl _⟩]
  simp
 unfold p_WriteFlat2
 cases big with
 | true =>
  obtain ⟨lr, h⟩ := wr2_b hF TBinary_bigEndian.mk hx hl ht hns hla (b0 := 0)
  rw [cond_t rfl, h, Option.bind_some, fin]
 | false =>
  obtain ⟨lr, h⟩ := wr2_l hF TBinary_bigEndian.mk hx hl ht hns hla (b0 := 0)
  rw [cond_f rfl, h, Option.bind_some, fin]
theorem read_p {F : Nat} (hF : 40001 < F) {l : List Nat} (hx : ∀ z ∈ l, z < 18446744073709551616) (hl : l.length ≤ 2000) {t : Nat} (ht : 2 ≤ t) {ns : List Nat} (hns : ns.length ≤ 2000) (hla : lastF t 0 ns = l.length) (big : Bool) :
  p_ReadFlat2 F (c4 big (ns.length : Int) ++ (cutF t l 0 ns).flatMap (row8 big t)) big (t : Int) = some (l, endsF t 0 ns, 0, true) := by
 have hlen : (c4 big (ns.length : Int) ++ (cutF t l 0 ns).flatMap (row8 big t)).length = 4 + ((cutF t l 0 ns).flatMap (row8 big t)).length := by rw [List.length_append, c4_len]
 have hsm : ((cutF t l 0 ns).flatMap (row8 big t)).length ≤ 100000 := by
  rw [rows_len, cutF_len, cutF_join ns 0 (by omega)]
  simp; omega
 have fin : ∀ (w : List Int) (k : Int) (n : Nat), w.length = n → p_Buffer_Len (TBytes_Buffer.mk w ((0 + n : Nat) : Int) k) = some 0 := fun w k n h => by
  unfold p_Buffer_Len
  dsimp only
  have : ((w.length : Nat) : Int) - ((0 + n : Nat) : Int) = 0 := by omega
  rw [this, need_pos (in64 (by omega) (by omega))]
 unfold p_ReadFlat2
 cases big with
 | true =>
  obtain ⟨k, h⟩ := rd2_b hF TBinary_bigEndian.mk ht hx hl hns hla (b2 := 0) (by omega) (At.all _)
  have h' : p_ReadFlatCoords2_bigEndian F TBinary_bigEndian.mk (t : Int) (c4 true (ns.length : Int) ++ (cutF t l 0 ns).flatMap (row8 true t)) (0 : Int) (0 : Int) = _ := h
  rw [cond_t rfl, h', Option.bind_some]
  simp only [Sum.elim_inr]
  rw [fin _ _ _ hlen, Option.bind_some]
 | false =>
  obtain ⟨k, h⟩ := rd2_l hF TBinary_bigEndian.mk ht hx hl hns hla (b2 := 0) (by omega) (At.all _)
  have h' : p_ReadFlatCoords2_littleEndian F TBinary_bigEndian.mk (t : Int) (c4 false (ns.length : Int) ++ (cutF t l 0 ns).flatMap (row8 false t)) (0 : Int) (0 : Int) = _ := h
  rw [cond_f rfl, h', Option.bind_some]
  simp only [Sum.elim_inr]
  rw [fin _ _ _ hlen, Option.bind_some]
theorem law_wt (l : List Nat) (e : List Int) (s : Int) (big : Bool) (hx : ∀ z ∈ l, z < 18446744073709551616) (he : ∀ x ∈ e, inI .i64 x) : p_FnWriteFlat2 (e.length + 1073741826) l e s big = some true := by
 have hF : 1073741826 ≤ e.length + 1073741826 := by omega
 generalize hFF : e.length + 1073741826 = F at *
 unfold p_FnWriteFlat2
 have key : p_FnWriteFlat2_k1 l e s big F true = some true := by unfold p_FnWriteFlat2_k1; rw [cond_t rfl]
 by_cases h1 : (2147483647 : Int) < ((l.length : Nat) : Int)
 ·rw [cond_t (decide_eq_true h1), key]
 rw [cond_f (decide_eq_false h1)]
 by_cases h2 : (2147483647 : Int) < ((e.length : Nat) : Int)
 ·rw [decide_eq_true h2, key]
 rw [decide_eq_false h2]
 unfold p_FnWriteFlat2_k1
 rw [cond_f rfl]
 obtain ⟨F', rfl⟩ : ∃ F', F = F' + 2 := ⟨F - 2, by omega⟩
 obtain ⟨g, b, hg, hb⟩ := fRows_p (F := F') l e s he (by omega) (by omega) (by omega)
 rw [hg, Option.bind_some]
 dsimp only
 cases b with
 | false => rw [cond_t (show (!false) = true from rfl)]
 | true =>
  obtain ⟨rfl, hr⟩ := hb rfl
  rw [cond_f (show (!true) = false from rfl)]
  obtain ⟨t, rfl⟩ : ∃ t : Nat, s = (t : Int) := ⟨s.toNat, by have := hr.lo; omega⟩
  have h2t : 2 ≤ t := by have := hr.lo; omega
  obtain ⟨ns, rfl, hq⟩ := EndsG.nat h2t e 0 hr.ends
  have hla : lastF t 0 ns = l.length := by omega
  have hfew := hr.few
  rw [endsF_len] at hfew
  rw [write_p (by omega) hx (by omega) h2t (by omega) (by omega) big, Option.bind_some, read_p (by omega) hx (by omega) h2t (by omega) hla big, Option.bind_some, endsF_len, wrap32 (by omega), cb_p (by omega) (by omega) (by omega), Option.bind_some, parts_p (by omega) (by omega) (by omega) (by omega), Option.bind_some]
  have hw := want_loop (G := F' + 2) (by omega) (l := l) (by omega) (s := (t : Int)) rfl h2t (ns := ns) (by omega) (by omega) big (b := c4 big (ns.length : Int)) (by rw [c4_len]; omega) (F' + 2) 0 (by omega) (by omega)
  rw [List.take_zero, List.flatMap_nil, List.append_nil] at hw
  have hw' : iter (p_FnWriteFlat2_l3 (t : Int) big (F' + 2) ((List.range ns.length).map (partF l (t : Int) t ns))) (F' + 2) ((0 : Int), c4 big (ns.length : Int)) = _ := hw
  rw [hw', Option.bind_some, aft_inl]
  unfold p_FnWriteFlat2_k2
  dsimp only
  rw [cond_t rfl, cond_t rfl, cond_t (by rfl), sameW_p _ (by omega) (by omega), Option.bind_some, cond_t rfl, sameI_p _ (by rw [endsF_len]; omega) (by omega), Option.bind_some, cond_t rfl]
  unfold p_ySame
  simp
end Go.Proofs.YtjhdpnjlphpboaaDoor.Wk
