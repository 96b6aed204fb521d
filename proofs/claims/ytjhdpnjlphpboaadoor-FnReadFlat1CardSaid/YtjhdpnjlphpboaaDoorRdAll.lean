/- Proved: plain texts of a law, joined. -/
import Derived.Test.YtjhdpnjlphpboaaDoorPureKit
import Derived.Test.YtjhdpnjlphpboaaDoorPRd
import Derived.Test.YtjhdpnjlphpboaaDoorWRd
set_option linter.unusedVariables false
set_option linter.unusedSimpArgs false
namespace Go.Proofs.YtjhdpnjlphpboaaDoor.Wk
open Go.Vm
/-- A loop through a list that is left with badv at the first element that is not p. -/
theorem fold_exit {α σ St V T : Type} (L : List α) (b : (St → Option (Sum V T)) → St → Option (Sum V T)) (mk : Nat → σ → St) (step : σ → α → σ) (p : α → Bool) (badv : T) (out : σ → V) (Inv : Nat → σ → Prop)
    (hend : ∀ K s, Inv L.length s → b K (mk L.length s) = some (.inl (out s)))
    (hstep : ∀ K i x s, L[i]? = some x → Inv i s → b K (mk i s) = if p x = true then K (mk (i + 1) (step s x)) else some (.inr badv))
    (hinv : ∀ i x s, L[i]? = some x → Inv i s → p x = true → Inv (i + 1) (step s x)) :
    ∀ (F i : Nat) (s : σ), L.length - i < F → i ≤ L.length → Inv i s → iter b F (mk i s) = some (if (L.drop i).all p = true then .inl (out ((L.drop i).foldl step s)) else .inr badv) := by
  intro F
  induction F with
  | zero => intro i s h; omega
  | succ F ih =>
    intro i s h hi hs
    show b (iter b F) (mk i s) = _
    by_cases hk : i < L.length
    · have hx : L[i]? = some L[i] := List.getElem?_eq_getElem hk
      rw [hstep _ i _ s hx hs, List.drop_eq_getElem_cons hk, List.all_cons, List.foldl_cons]
      cases hb : p L[i] with
      | false => rw [if_neg (by simp), Bool.false_and, if_neg (by simp)]
      | true => rw [if_pos rfl, Bool.true_and]; exact ih (i + 1) _ (by omega) (by omega) (hinv i _ s hx hs hb)
    · have : i = L.length := by omega
      subst this
      rw [hend _ s hs, List.drop_length]; rfl
/-- The same, without an exit. -/
theorem fold_all {α σ St V T : Type} (L : List α) (b : (St → Option (Sum V T)) → St → Option (Sum V T)) (mk : Nat → σ → St) (step : σ → α → σ) (out : σ → V) (Inv : Nat → σ → Prop)
    (hend : ∀ K s, Inv L.length s → b K (mk L.length s) = some (.inl (out s)))
    (hstep : ∀ K i x s, L[i]? = some x → Inv i s → b K (mk i s) = K (mk (i + 1) (step s x)))
    (hinv : ∀ i x s, L[i]? = some x → Inv i s → Inv (i + 1) (step s x)) :
    ∀ (F i : Nat) (s : σ), L.length - i < F → i ≤ L.length → Inv i s → iter b F (mk i s) = some (.inl (out ((L.drop i).foldl step s))) := by
  intro F
  induction F with
  | zero => intro i s h; omega
  | succ F ih =>
    intro i s h hi hs
    show b (iter b F) (mk i s) = _
    by_cases hk : i < L.length
    · have hx : L[i]? = some L[i] := List.getElem?_eq_getElem hk
      rw [hstep _ i _ s hx hs, List.drop_eq_getElem_cons hk, List.foldl_cons]
      exact ih (i + 1) _ (by omega) (by omega) (hinv i _ s hx hs)
    · have : i = L.length := by omega
      subst this
      rw [hend _ s hs, List.drop_length]; rfl
/-- The same, where only the bound counts. -/
theorem fold_ex {α σ St V T : Type} (L : List α) (b : (St → Option (Sum V T)) → St → Option (Sum V T)) (mk : Nat → σ → St) (out : σ → V) (Inv : Nat → σ → Prop)
    (hend : ∀ K s, Inv L.length s → b K (mk L.length s) = some (.inl (out s)))
    (hstep : ∀ i x s, L[i]? = some x → Inv i s → ∃ s', Inv (i + 1) s' ∧ ∀ K, b K (mk i s) = K (mk (i + 1) s')) :
    ∀ (F i : Nat) (s : σ), L.length - i < F → i ≤ L.length → Inv i s → ∃ s', Inv L.length s' ∧ iter b F (mk i s) = some (.inl (out s')) := by
  intro F
  induction F with
  | zero => intro i s h; omega
  | succ F ih =>
    intro i s h hi hs
    show ∃ s', Inv L.length s' ∧ b (iter b F) (mk i s) = _
    by_cases hk : i < L.length
    · have hx : L[i]? = some L[i] := List.getElem?_eq_getElem hk
      obtain ⟨s', h1, h2⟩ := hstep i _ s hx hs
      rw [h2]
      exact ih (i + 1) _ (by omega) (by omega) h1
    · have : i = L.length := by omega
      subst this
      exact ⟨s, hs, hend _ s hs⟩
theorem dlt {i n : Nat} (h : i < n) : decide ((i : Int) < (n : Int)) = true := decide_eq_true (by omega)
theorem dge {n : Nat} : decide ((n : Int) < (n : Int)) = false := decide_eq_false (by omega)
theorem mem_get {α : Type} {l : List α} {i : Nat} {x : α} (h : l[i]? = some x) : x ∈ l := List.mem_of_getElem? h
theorem lt_get {α : Type} {l : List α} {i : Nat} {x : α} (h : l[i]? = some x) : i < l.length := (List.getElem?_eq_some_iff.1 h).1
theorem i64s {k : Nat} (h : k < 4611686018427387904) : inI .i64 ((k : Int) + 1) := in64 (by omega) (by omega)
end Go.Proofs.YtjhdpnjlphpboaaDoor.Wk

set_option linter.unusedVariables false
set_option linter.unusedSimpArgs false
namespace Go.Proofs.YtjhdpnjlphpboaaDoor.Wk
open Go.Vm
/-- All are bytes. -/
def AllB (l : List Int) : Prop := ∀ z, z ∈ l → 0 ≤ z ∧ z ≤ 255
def val (l : List Int) : Int := l.foldl (fun a x => a * 256 + x) 0
theorem wu64 {z : Int} (h1 : 0 ≤ z) (h2 : z < 18446744073709551616) : IntKind.u64.wrap z = z := wrap_in .u64 z (by simp only [lo]; omega) (by simp only [hi]; omega)
theorem wu32 {z : Int} (h1 : 0 ≤ z) (h2 : z < 4294967296) : IntKind.u32.wrap z = z := wrap_in .u32 z (by simp only [lo]; omega) (by simp only [hi]; omega)
theorem wi64 {z : Int} (h1 : 0 ≤ z) (h2 : z < 9223372036854775808) : IntKind.i64.wrap z = z := wrap_in .i64 z (by simp only [lo]; omega) (by simp only [hi]; omega)
theorem or_nat {A B n : Nat} (h : A < 2 ^ n) : A ||| B * 2 ^ n = A + B * 2 ^ n := by
  have := Nat.two_pow_add_eq_or_of_lt (i := n) (b := A) h B
  rw [Nat.mul_comm (2 ^ n) B] at this
  rw [Nat.or_comm, ← this, Nat.add_comm]
theorem bor64 {a c : Nat} (ha : a < 18446744073709551616) (hc : c < 18446744073709551616) : bits .or .u64 (a : Int) (c : Int) = ((a ||| c : Nat) : Int) := by
  unfold bits
  have e0 : (BitVec.ofInt 64 (a : Int) ||| BitVec.ofInt 64 (c : Int)).toNat = a ||| c := by
    rw [BitVec.toNat_or, BitVec.toNat_ofInt, BitVec.toNat_ofInt]
    have e : ∀ z : Nat, z < 18446744073709551616 → ((z : Int) % ((2 ^ 64 : Nat) : Int)).toNat = z := fun z hz => by omega
    rw [e a ha, e c hc]
  show IntKind.u64.wrap (((BitVec.ofInt 64 (a : Int) ||| BitVec.ofInt 64 (c : Int)).toNat : Nat) : Int) = _
  rw [e0]
  have hlt : a ||| c < 2 ^ 64 := Nat.or_lt_two_pow (by omega) (by omega)
  exact wu64 (by omega) (by omega)
theorem bor32 {a c : Nat} (ha : a < 4294967296) (hc : c < 4294967296) : bits .or .u32 (a : Int) (c : Int) = ((a ||| c : Nat) : Int) := by
  unfold bits
  have e0 : (BitVec.ofInt 32 (a : Int) ||| BitVec.ofInt 32 (c : Int)).toNat = a ||| c := by
    rw [BitVec.toNat_or, BitVec.toNat_ofInt, BitVec.toNat_ofInt]
    have e : ∀ z : Nat, z < 4294967296 → ((z : Int) % ((2 ^ 32 : Nat) : Int)).toNat = z := fun z hz => by omega
    rw [e a ha, e c hc]
  show IntKind.u32.wrap (((BitVec.ofInt 32 (a : Int) ||| BitVec.ofInt 32 (c : Int)).toNat : Nat) : Int) = _
  rw [e0]
  have hlt : a ||| c < 2 ^ 32 := Nat.or_lt_two_pow (by omega) (by omega)
  exact wu32 (by omega) (by omega)
/-- One byte more, above those that are there. -/
theorem orb64 {a x : Int} (n : Nat) (hn : n ≤ 56) (h0 : 0 ≤ a) (h1 : a < 2 ^ n) (hx : 0 ≤ x ∧ x ≤ 255) : bits .or .u64 a (IntKind.u64.wrap (IntKind.u64.wrap x * 2 ^ n)) = a + x * 2 ^ n := by
  obtain ⟨A, rfl⟩ := Int.eq_ofNat_of_zero_le h0
  obtain ⟨X, rfl⟩ := Int.eq_ofNat_of_zero_le hx.1
  have hp : (2 : Nat) ^ n ≤ 2 ^ 56 := Nat.pow_le_pow_right (by omega) hn
  have hp2 : ((2 : Int) ^ n) = ((2 ^ n : Nat) : Int) := by norm_cast
  have hA : A < 2 ^ n := by rw [hp2] at h1; exact_mod_cast h1
  have hm : X * 2 ^ n ≤ 255 * 2 ^ 56 := Nat.mul_le_mul (by omega) hp
  have e1 : ((X : Int) * 2 ^ n) = ((X * 2 ^ n : Nat) : Int) := by push_cast; rfl
  rw [wu64 (z := (X : Int)) (by omega) (by omega), e1, wu64 (z := ((X * 2 ^ n : Nat) : Int)) (by omega) (by omega), bor64 (by omega) (by omega), or_nat hA]
  exact Int.natCast_add _ _
theorem orb32 {a x : Int} (n : Nat) (hn : n ≤ 24) (h0 : 0 ≤ a) (h1 : a < 2 ^ n) (hx : 0 ≤ x ∧ x ≤ 255) : bits .or .u32 a (IntKind.u32.wrap (IntKind.u32.wrap x * 2 ^ n)) = a + x * 2 ^ n := by
  obtain ⟨A, rfl⟩ := Int.eq_ofNat_of_zero_le h0
  obtain ⟨X, rfl⟩ := Int.eq_ofNat_of_zero_le hx.1
  have hp : (2 : Nat) ^ n ≤ 2 ^ 24 := Nat.pow_le_pow_right (by omega) hn
  have hp2 : ((2 : Int) ^ n) = ((2 ^ n : Nat) : Int) := by norm_cast
  have hA : A < 2 ^ n := by rw [hp2] at h1; exact_mod_cast h1
  have hm : X * 2 ^ n ≤ 255 * 2 ^ 24 := Nat.mul_le_mul (by omega) hp
  have e1 : ((X : Int) * 2 ^ n) = ((X * 2 ^ n : Nat) : Int) := by push_cast; rfl
  rw [wu32 (z := (X : Int)) (by omega) (by omega), e1, wu32 (z := ((X * 2 ^ n : Nat) : Int)) (by omega) (by omega), bor32 (by omega) (by omega), or_nat hA]
  exact Int.natCast_add _ _
/-- One byte more, below those that are there. -/
theorem orl64 {a x : Int} (h0 : 0 ≤ a) (h1 : a < 72057594037927936) (hx : 0 ≤ x ∧ x ≤ 255) : bits .or .u64 (IntKind.u64.wrap (a * 2 ^ 8)) (IntKind.u64.wrap x) = a * 256 + x := by
  obtain ⟨A, rfl⟩ := Int.eq_ofNat_of_zero_le h0
  obtain ⟨X, rfl⟩ := Int.eq_ofNat_of_zero_le hx.1
  have e1 : ((A : Int) * 2 ^ 8) = ((A * 2 ^ 8 : Nat) : Int) := by omega
  rw [e1, wu64 (by omega) (by omega), wu64 (by omega) (by omega), bor64 (by omega) (by omega), Nat.or_comm, or_nat (by omega)]
  omega
theorem val_fold : ∀ (l : List Int) (a : Int), AllB l → 0 ≤ a → 0 ≤ l.foldl (fun a x => a * 256 + x) a ∧ l.foldl (fun a x => a * 256 + x) a < (a + 1) * 256 ^ l.length
  | [], a, _, h => ⟨h, by simp; omega⟩
  | x :: l, a, hb, h => by
    have hx := hb x (by simp)
    have := val_fold l (a * 256 + x) (fun z hz => hb z (by simp [hz])) (by omega)
    rw [List.foldl_cons, List.length_cons]
    refine ⟨this.1, Int.lt_of_lt_of_le this.2 ?_⟩
    have hp : (0 : Int) ≤ 256 ^ l.length := Int.pow_nonneg (by omega)
    calc (a * 256 + x + 1) * 256 ^ l.length ≤ ((a + 1) * 256) * 256 ^ l.length := Int.mul_le_mul_of_nonneg_right (by omega) hp
      _ = (a + 1) * 256 ^ (l.length + 1) := by rw [Int.pow_succ, Int.mul_assoc, Int.mul_comm 256]
theorem val_lt {l : List Int} (h : AllB l) : 0 ≤ val l ∧ val l < 256 ^ l.length := by
  have := val_fold l 0 h (by omega)
  unfold val
  simpa using this
theorem AllB.take {l : List Int} (h : AllB l) (n : Nat) : AllB (l.take n) := fun z hz => h z (List.mem_of_mem_take hz)
theorem AllB.drop {l : List Int} (h : AllB l) (n : Nat) : AllB (l.drop n) := fun z hz => h z (List.mem_of_mem_drop hz)
theorem AllB.rev {l : List Int} (h : AllB l) : AllB l.reverse := fun z hz => h z (by simpa using hz)
theorem AllB.append {l r : List Int} (h : AllB l) (h2 : AllB r) : AllB (l ++ r) := fun z hz => (List.mem_append.1 hz).elim (h z) (h2 z)
/-- The bytes of a number in their order. -/
def ord (big : Bool) (l : List Int) : List Int := if big = true then l else l.reverse
theorem ord_len (big : Bool) (l : List Int) : (ord big l).length = l.length := by unfold ord; split <;> simp
theorem AllB.ord {l : List Int} (h : AllB l) (big : Bool) : AllB (ord big l) := by
  by_cases hb : big = true
  · unfold Wk.ord; rw [if_pos hb]; exact h
  · unfold Wk.ord; rw [if_neg hb]; exact h.rev
theorem idx_lit {α : Type} {l : List α} {x : α} (k : Nat) (h : l[k]? = some x) : idx l ((k : Nat) : Int) = some x := idx_get h
theorem be64_p (u : TBinary_bigEndian) {c0 c1 c2 c3 c4 c5 c6 c7 : Int} {r : List Int} (h : AllB [c0, c1, c2, c3, c4, c5, c6, c7]) :
    p_bigEndian_Uint64 u (c0 :: c1 :: c2 :: c3 :: c4 :: c5 :: c6 :: c7 :: r) = some (val [c0, c1, c2, c3, c4, c5, c6, c7]) := by
  have h0 := h c0 (by simp); have h1 := h c1 (by simp); have h2 := h c2 (by simp); have h3 := h c3 (by simp); have h4 := h c4 (by simp); have h5 := h c5 (by simp); have h6 := h c6 (by simp); have h7 := h c7 (by simp)
  unfold p_bigEndian_Uint64
  have i : ∀ (k : Nat) x, (c0 :: c1 :: c2 :: c3 :: c4 :: c5 :: c6 :: c7 :: r)[k]? = some x → idx (c0 :: c1 :: c2 :: c3 :: c4 :: c5 :: c6 :: c7 :: r) ((k : Nat) : Int) = some x := fun k x h => idx_get h
  have i' : idx (c0 :: c1 :: c2 :: c3 :: c4 :: c5 :: c6 :: c7 :: r) (0 : Int) = some c0 ∧ idx (c0 :: c1 :: c2 :: c3 :: c4 :: c5 :: c6 :: c7 :: r) (1 : Int) = some c1 ∧ idx (c0 :: c1 :: c2 :: c3 :: c4 :: c5 :: c6 :: c7 :: r) (2 : Int) = some c2 ∧ idx (c0 :: c1 :: c2 :: c3 :: c4 :: c5 :: c6 :: c7 :: r) (3 : Int) = some c3 ∧ idx (c0 :: c1 :: c2 :: c3 :: c4 :: c5 :: c6 :: c7 :: r) (4 : Int) = some c4 ∧ idx (c0 :: c1 :: c2 :: c3 :: c4 :: c5 :: c6 :: c7 :: r) (5 : Int) = some c5 ∧ idx (c0 :: c1 :: c2 :: c3 :: c4 :: c5 :: c6 :: c7 :: r) (6 : Int) = some c6 ∧ idx (c0 :: c1 :: c2 :: c3 :: c4 :: c5 :: c6 :: c7 :: r) (7 : Int) = some c7 := ⟨i 0 c0 rfl, i 1 c1 rfl, i 2 c2 rfl, i 3 c3 rfl, i 4 c4 rfl, i 5 c5 rfl, i 6 c6 rfl, i 7 c7 rfl⟩
  obtain ⟨j0, j1, j2, j3, j4, j5, j6, j7⟩ := i'
  rw [j7, j6, j5, j4, j3, j2, j1, j0]
  simp only [Option.bind_some]
  rw [wu64 h7.1 (by omega), orb64 8 (by omega) h7.1 (by omega) h6, orb64 16 (by omega) (by omega) (by omega) h5, orb64 24 (by omega) (by omega) (by omega) h4, orb64 32 (by omega) (by omega) (by omega) h3,
    orb64 40 (by omega) (by omega) (by omega) h2, orb64 48 (by omega) (by omega) (by omega) h1, orb64 56 (by omega) (by omega) (by omega) h0]
  congr 1
  simp only [val, List.foldl_cons, List.foldl_nil]
  omega
theorem le64_p (u : TBinary_bigEndian) {c0 c1 c2 c3 c4 c5 c6 c7 : Int} {r : List Int} (h : AllB [c0, c1, c2, c3, c4, c5, c6, c7]) :
    p_littleEndian_Uint64 u (c0 :: c1 :: c2 :: c3 :: c4 :: c5 :: c6 :: c7 :: r) = some (val [c7, c6, c5, c4, c3, c2, c1, c0]) := by
  have h0 := h c0 (by simp); have h1 := h c1 (by simp); have h2 := h c2 (by simp); have h3 := h c3 (by simp); have h4 := h c4 (by simp); have h5 := h c5 (by simp); have h6 := h c6 (by simp); have h7 := h c7 (by simp)
  unfold p_littleEndian_Uint64
  have i : ∀ (k : Nat) x, (c0 :: c1 :: c2 :: c3 :: c4 :: c5 :: c6 :: c7 :: r)[k]? = some x → idx (c0 :: c1 :: c2 :: c3 :: c4 :: c5 :: c6 :: c7 :: r) ((k : Nat) : Int) = some x := fun k x h => idx_get h
  have i' : idx (c0 :: c1 :: c2 :: c3 :: c4 :: c5 :: c6 :: c7 :: r) (0 : Int) = some c0 ∧ idx (c0 :: c1 :: c2 :: c3 :: c4 :: c5 :: c6 :: c7 :: r) (1 : Int) = some c1 ∧ idx (c0 :: c1 :: c2 :: c3 :: c4 :: c5 :: c6 :: c7 :: r) (2 : Int) = some c2 ∧ idx (c0 :: c1 :: c2 :: c3 :: c4 :: c5 :: c6 :: c7 :: r) (3 : Int) = some c3 ∧ idx (c0 :: c1 :: c2 :: c3 :: c4 :: c5 :: c6 :: c7 :: r) (4 : Int) = some c4 ∧ idx (c0 :: c1 :: c2 :: c3 :: c4 :: c5 :: c6 :: c7 :: r) (5 : Int) = some c5 ∧ idx (c0 :: c1 :: c2 :: c3 :: c4 :: c5 :: c6 :: c7 :: r) (6 : Int) = some c6 ∧ idx (c0 :: c1 :: c2 :: c3 :: c4 :: c5 :: c6 :: c7 :: r) (7 : Int) = some c7 := ⟨i 0 c0 rfl, i 1 c1 rfl, i 2 c2 rfl, i 3 c3 rfl, i 4 c4 rfl, i 5 c5 rfl, i 6 c6 rfl, i 7 c7 rfl⟩
  obtain ⟨j0, j1, j2, j3, j4, j5, j6, j7⟩ := i'
  rw [j7, j6, j5, j4, j3, j2, j1, j0]
  simp only [Option.bind_some]
  rw [wu64 h0.1 (by omega), orb64 8 (by omega) h0.1 (by omega) h1, orb64 16 (by omega) (by omega) (by omega) h2, orb64 24 (by omega) (by omega) (by omega) h3, orb64 32 (by omega) (by omega) (by omega) h4,
    orb64 40 (by omega) (by omega) (by omega) h5, orb64 48 (by omega) (by omega) (by omega) h6, orb64 56 (by omega) (by omega) (by omega) h7]
  congr 1
  simp only [val, List.foldl_cons, List.foldl_nil]
  omega
theorem or32_p {x0 x1 x2 x3 : Int} (h : AllB [x0, x1, x2, x3]) :
    IntKind.i64.wrap (bits .or .u32 (bits .or .u32 (bits .or .u32 (IntKind.u32.wrap x3) (IntKind.u32.wrap ((IntKind.u32.wrap x2) * 2 ^ 8))) (IntKind.u32.wrap ((IntKind.u32.wrap x1) * 2 ^ 16))) (IntKind.u32.wrap ((IntKind.u32.wrap x0) * 2 ^ 24))) = val [x0, x1, x2, x3] := by
  have h0 := h x0 (by simp); have h1 := h x1 (by simp); have h2 := h x2 (by simp); have h3 := h x3 (by simp)
  rw [wu32 h3.1 (by omega), orb32 8 (by omega) h3.1 (by omega) h2, orb32 16 (by omega) (by omega) (by omega) h1, orb32 24 (by omega) (by omega) (by omega) h0, wi64 (by omega) (by omega)]
  simp only [val, List.foldl_cons, List.foldl_nil]
  omega
theorem eight {c : List Int} (h : 8 ≤ c.length) : ∃ c0 c1 c2 c3 c4 c5 c6 c7 r, c = c0 :: c1 :: c2 :: c3 :: c4 :: c5 :: c6 :: c7 :: r := by
  match c, h with
  | c0 :: c1 :: c2 :: c3 :: c4 :: c5 :: c6 :: c7 :: r, _ => exact ⟨c0, c1, c2, c3, c4, c5, c6, c7, r, rfl⟩
theorem four {c : List Int} (h : 4 ≤ c.length) : ∃ c0 c1 c2 c3 r, c = c0 :: c1 :: c2 :: c3 :: r := by
  match c, h with
  | c0 :: c1 :: c2 :: c3 :: r, _ => exact ⟨c0, c1, c2, c3, r, rfl⟩
/-- The number that eight bytes are. -/
def num8 (big : Bool) (c : List Int) : Int := val (ord big (c.take 8))
theorem num8_lt {c : List Int} (h : AllB c) (big : Bool) : 0 ≤ num8 big c ∧ num8 big c < 18446744073709551616 := by
  have := val_lt ((h.take 8).ord big)
  refine ⟨this.1, Int.lt_of_lt_of_le this.2 ?_⟩
  have hl : (ord big (c.take 8)).length ≤ 8 := by rw [ord_len, List.length_take]; omega
  have h1 : 256 ^ (ord big (c.take 8)).length ≤ 256 ^ 8 := Nat.pow_le_pow_right (by omega) hl
  have h2 : (256 : Nat) ^ 8 = 18446744073709551616 := by decide
  show ((256 : Nat) : Int) ^ (ord big (c.take 8)).length ≤ _
  rw [← Int.natCast_pow]
  omega
theorem be_p (u : TBinary_bigEndian) {c : List Int} (hc : AllB c) (h : 8 ≤ c.length) : p_bigEndian_Uint64 u c = some (num8 true c) := by
  obtain ⟨c0, c1, c2, c3, c4, c5, c6, c7, r, rfl⟩ := eight h
  rw [be64_p u (fun z hz => hc z (by simp at hz ⊢; omega))]
  rfl
theorem le_p (u : TBinary_bigEndian) {c : List Int} (hc : AllB c) (h : 8 ≤ c.length) : p_littleEndian_Uint64 u c = some (num8 false c) := by
  obtain ⟨c0, c1, c2, c3, c4, c5, c6, c7, r, rfl⟩ := eight h
  rw [le64_p u (fun z hz => hc z (by simp at hz ⊢; omega))]
  rfl
end Go.Proofs.YtjhdpnjlphpboaaDoor.Wk

set_option linter.unusedVariables false
set_option linter.unusedSimpArgs false
namespace Go.Proofs.YtjhdpnjlphpboaaDoor.Wk
open Go.Vm
theorem ord_get {big : Bool} {D : List Int} {n i : Nat} {x : Int} (hn : n ≤ D.length) (h : (ord big (D.take n))[i]? = some x) : i < n ∧ D[if big = true then i else n - 1 - i]? = some x := by
  have hi : i < n := by
    have := (List.getElem?_eq_some_iff.1 h).1
    rw [ord_len, List.length_take] at this
    omega
  refine ⟨hi, ?_⟩
  unfold ord at h
  by_cases hb : big = true
  · rw [if_pos hb] at h ⊢
    rw [List.getElem?_take, if_pos hi] at h
    exact h
  · rw [if_neg hb] at h ⊢
    rw [List.getElem?_reverse (by rw [List.length_take]; omega), List.length_take, Nat.min_eq_left hn, List.getElem?_take, if_pos (by omega)] at h
    exact h
theorem pow256 {i : Nat} (h : i ≤ 7) : (256 : Int) ^ i ≤ 72057594037927936 := by
  have h1 : 256 ^ i ≤ 256 ^ 7 := Nat.pow_le_pow_right (by omega) h
  have h2 : (256 : Nat) ^ 7 = 72057594037927936 := by decide
  show ((256 : Nat) : Int) ^ i ≤ _
  rw [← Int.natCast_pow]
  omega
theorem step_lt {s x : Int} {i : Nat} (h : 0 ≤ s ∧ s < 256 ^ i) (hx : 0 ≤ x ∧ x ≤ 255) : 0 ≤ s * 256 + x ∧ s * 256 + x < 256 ^ (i + 1) := by
  rw [Int.pow_succ]
  omega
/-- How many numbers follow. -/
def cnt (big : Bool) (a0 : List Int) : Int := val (ord big (a0.take 4))
theorem u4_loop {F : Nat} (hF : 10 < F) {D : List Int} (hb : AllB D) (hl : 4 ≤ D.length) (big : Bool) : iter (p_TakeRow_l19 D big) F ((0 : Int), (0 : Int)) = some (.inl (cnt big D)) := by
  have hL : (ord big (D.take 4)).length = 4 := by rw [ord_len, List.length_take]; omega
  have := fold_all (V := Int) (T := List Nat × Int × Bool × Bool) (ord big (D.take 4)) (p_TakeRow_l19 D big) (fun i s => (s, (i : Int))) (fun a x => a * 256 + x) (fun s => s) (fun i s => 0 ≤ s ∧ s < 256 ^ i)
    (fun K s hs => by
      unfold p_TakeRow_l19
      dsimp only
      rw [hL, cond_f (decide_eq_false (by omega))])
    (fun K i x s hx hs => by
      obtain ⟨hi, hg⟩ := ord_get hl hx
      have hxb := (hb.take 4).ord big x (mem_get hx)
      unfold p_TakeRow_l19 p_TakeRow_k20
      dsimp only
      have hp := pow256 (i := i) (by omega)
      rw [cond_t (decide_eq_true (by omega)), need_pos (in64m (by omega) (by omega))]
      by_cases hbg : big = true
      · subst hbg
        rw [if_pos rfl] at hg
        rw [cond_f (show (!true) = false from rfl), idx_get hg, Option.bind_some, need_pos (in64m (by omega) (by omega)), orl64 hs.1 (by omega) hxb, succ_cast]
      · have hbf : big = false := by simpa using hbg
        subst hbf
        rw [if_neg (by simp)] at hg
        have e : (3 : Int) - (i : Int) = ((4 - 1 - i : Nat) : Int) := by omega
        rw [cond_t (show (!false) = true from rfl), e, idx_get hg, Option.bind_some, need_pos (in64m (by omega) (by omega)), orl64 hs.1 (by omega) hxb, succ_cast])
    (fun i x s hx hs => step_lt hs ((hb.take 4).ord big x (mem_get hx))) F 0 0 (by omega) (by omega) ⟨by omega, by simp⟩
  rw [List.drop_zero] at this
  exact this
theorem u8_loop {F : Nat} (hF : 10 < F) {g : Int × Bool × List Int × List Nat} (hb : AllB g.2.2.1) (hl : 8 ≤ g.2.2.1.length) (big : Bool) : iter (p_TakeRow_l17 big g) F ((0 : Int), (0 : Int)) = some (.inl (num8 big g.2.2.1)) := by
  have hL : (ord big (g.2.2.1.take 8)).length = 8 := by rw [ord_len, List.length_take]; omega
  have := fold_all (V := Int) (ord big (g.2.2.1.take 8)) (p_TakeRow_l17 big g) (fun i s => (s, (i : Int))) (fun a x => a * 256 + x) (fun s => s) (fun i s => 0 ≤ s ∧ s < 256 ^ i)
    (fun K s hs => by
      unfold p_TakeRow_l17
      dsimp only
      rw [hL, cond_f (decide_eq_false (by omega))])
    (fun K i x s hx hs => by
      obtain ⟨hi, hg⟩ := ord_get hl hx
      have hxb := (hb.take 8).ord big x (mem_get hx)
      unfold p_TakeRow_l17 p_TakeRow_k18
      dsimp only
      have hp := pow256 (i := i) (by omega)
      rw [cond_t (decide_eq_true (by omega)), need_pos (in64m (by omega) (by omega))]
      by_cases hbg : big = true
      · subst hbg
        rw [if_pos rfl] at hg
        rw [cond_f (show (!true) = false from rfl), idx_get hg, Option.bind_some, need_pos (in64m (by omega) (by omega)), orl64 hs.1 (by omega) hxb, succ_cast]
      · have hbf : big = false := by simpa using hbg
        subst hbf
        rw [if_neg (by simp)] at hg
        have e : (7 : Int) - (i : Int) = ((8 - 1 - i : Nat) : Int) := by omega
        rw [cond_t (show (!false) = true from rfl), e, idx_get hg, Option.bind_some, need_pos (in64m (by omega) (by omega)), orl64 hs.1 (by omega) hxb, succ_cast])
    (fun i x s hx hs => step_lt hs ((hb.take 8).ord big x (mem_get hx))) F 0 0 (by omega) (by omega) ⟨by omega, by simp⟩
  rw [List.drop_zero] at this
  exact this
/-- The j-th number. -/
def num (big : Bool) (D : List Int) (j : Nat) : Nat := (num8 big (D.drop (8 * j))).toNat
theorem nums_loop {F0 : Nat} (hF0 : 10 < F0) {D : List Int} (hb : AllB D) (big : Bool) {a2 N : Int} {n : Nat} (hn : (n : Int) = N * a2) (hn2 : n ≤ 36864) (hN : IntKind.i64.wrap N = N) : ∀ (k i F : Nat) (out : List Nat), i + k = n → 8 * i ≤ D.length → out.length = i → k + 2 < F →
    ∃ r : List Int × Bool × List Nat, iter (p_TakeRow_l13 big a2 F0 N) F ((i : Int), false, D.drop (8 * i), out) = some (.inl r) ∧ (8 * n ≤ D.length → r = (D.drop (8 * n), false, out ++ (List.range k).map fun j => num big D (i + j))) ∧ (D.length < 8 * n → r.2.1 = true)
  | 0, i, F + 1, out, hk, h8, ho, hF => by
    have : i = n := by omega
    subst this
    refine ⟨(D.drop (8 * i), false, out), ?_, fun _ => by simp, fun h => by omega⟩
    show p_TakeRow_l13 big a2 F0 N (iter _ F) _ = _
    unfold p_TakeRow_l13 p_TakeRow_k14
    dsimp only
    rw [hN, ← hn, cond_f (decide_eq_false (by omega)), cond_f rfl]
  | k + 1, i, F + 1, out, hk, h8, ho, hF => by
    show ∃ r, p_TakeRow_l13 big a2 F0 N (iter (p_TakeRow_l13 big a2 F0 N) F) _ = _ ∧ _
    generalize hK : iter (p_TakeRow_l13 big a2 F0 N) F = K
    unfold p_TakeRow_l13 p_TakeRow_k14
    dsimp only
    rw [hN, ← hn, cond_t (decide_eq_true (by omega)), cond_t (show (!false) = true from rfl), cond_t (show (!false) = true from rfl), cond_f rfl]
    unfold p_TakeRow_k15
    dsimp only
    rw [List.length_drop]
    by_cases h : 8 ≤ D.length - 8 * i
    · rw [cond_f (decide_eq_false (by omega)), u8_loop hF0 (g := ((i : Int), false, D.drop (8 * i), out)) (hb.drop _) (by rw [List.length_drop]; exact h) big, Option.bind_some, aft_inl]
      unfold p_TakeRow_k16
      dsimp only
      have hv := num8_lt (hb.drop (8 * i)) big
      have e8 : ((8 : Int)).toNat = 8 := rfl
      rw [e8, need_pos ⟨⟨by omega, trivial⟩, by rw [List.length_drop]; omega, Nat.le_refl _⟩, need_pos (by omega), need_pos (by simp; omega), need_pos (in64m (by omega) (by omega)), succ_cast, List.drop_drop,
        List.take_of_length_le (by simp only [List.length_drop]; omega), show 8 * i + 8 = 8 * (i + 1) by omega]
      subst hK
      obtain ⟨r, h1, h2, h3⟩ := nums_loop hF0 hb big hn hn2 hN k (i + 1) F (out ++ [(num8 big (D.drop (8 * i))).toNat]) (by omega) (by omega) (by simp [ho]) (by omega)
      refine ⟨r, h1, fun h4 => ?_, h3⟩
      rw [h2 h4, List.range_succ_eq_map, List.map_cons, List.map_map, List.append_assoc]
      congr 3
      rw [List.singleton_append]
      congr 1
      apply List.map_congr_left
      intro j _
      show num big D (i + 1 + j) = num big D (i + (j + 1))
      rw [show i + 1 + j = i + (j + 1) by omega]
    · rw [cond_t (decide_eq_true (by omega)), need_pos (show ((((0 : Int)).toNat : Nat) : Int) = 0 from rfl), need_pos (by simp; omega), need_pos (in64m (by omega) (by omega)), succ_cast]
      subst hK
      refine ⟨(D.drop (8 * i), true, out ++ [((0 : Int)).toNat]), ?_, fun h4 => by omega, fun _ => rfl⟩
      match F, hF with
      | F + 1, hF =>
        show p_TakeRow_l13 big a2 F0 N (iter _ F) _ = _
        unfold p_TakeRow_l13 p_TakeRow_k14
        dsimp only
        by_cases h5 : ((i + 1 : Nat) : Int) < IntKind.i64.wrap N * a2
        · rw [cond_t (decide_eq_true h5), cond_f (show (!true) = false from rfl), cond_f rfl]
        · rw [cond_f (decide_eq_false h5), cond_f rfl]
theorem cnt_lt {a0 : List Int} (hb : AllB a0) (big : Bool) : 0 ≤ cnt big a0 ∧ cnt big a0 < 4294967296 := by
  have := val_lt ((hb.take 4).ord big)
  refine ⟨this.1, Int.lt_of_lt_of_le this.2 ?_⟩
  have hl : (ord big (a0.take 4)).length ≤ 4 := by rw [ord_len, List.length_take]; omega
  have h1 : 256 ^ (ord big (a0.take 4)).length ≤ 256 ^ 4 := Nat.pow_le_pow_right (by omega) hl
  have h2 : (256 : Nat) ^ 4 = 4294967296 := by decide
  show ((256 : Nat) : Int) ^ (ord big (a0.take 4)).length ≤ _
  rw [← Int.natCast_pow]
  omega
theorem take_short {F : Nat} (hF : 10 < F) {a0 : List Int} (h : a0.length < 4) (big : Bool) (a2 : Int) : ∃ r, p_TakeRow F a0 big a2 = some r ∧ r.2.2.2 = false ∧ r.2.2.1 = false := by
  refine ⟨([], ((a0.length : Nat) : Int), false, false), ?_, rfl, rfl⟩
  unfold p_TakeRow
  rw [cond_t (decide_eq_true (by omega)), need_pos (by rw [Int.zero_mul]; exact in64 (by omega) (by omega))]
  match F, hF with
  | F + 1, _ =>
    have : iter (p_TakeRow_l2 a2) (F + 1) ((0 : Int), []) = some (.inl []) := by
      show p_TakeRow_l2 a2 (iter _ F) _ = _
      unfold p_TakeRow_l2 p_TakeRow_k3
      dsimp only
      rw [cond_f (decide_eq_false (by omega)), cond_f rfl]
    rw [this, Option.bind_some, aft_inl]
    rfl
theorem take_great {F : Nat} (hF : 10 < F) {a0 : List Int} (hb : AllB a0) (h : 4 ≤ a0.length) (big : Bool) (a2 : Int) (hc : 4096 < cnt big a0) : ∃ r, p_TakeRow F a0 big a2 = some r ∧ r.2.2.2 = true := by
  unfold p_TakeRow
  rw [cond_f (decide_eq_false (by omega)), u4_loop hF hb h, Option.bind_some, aft_inl]
  unfold p_TakeRow_k4
  rw [need_pos ⟨⟨by omega, trivial⟩, by show 4 ≤ _; omega, Nat.le_refl _⟩, cond_t (decide_eq_true hc), need_pos (by rw [Int.zero_mul]; exact in64 (by omega) (by omega))]
  match F, hF with
  | F + 1, _ =>
    have : iter (p_TakeRow_l6 big a2 (F + 1)) (F + 1) ((0 : Int), false, ((a0.drop ((4 : Int)).toNat).take (a0.length - ((4 : Int)).toNat)), []) = some (.inl (((a0.drop ((4 : Int)).toNat).take (a0.length - ((4 : Int)).toNat)), false, [])) := by
      show p_TakeRow_l6 big a2 (F + 1) (iter _ F) _ = _
      unfold p_TakeRow_l6 p_TakeRow_k7
      dsimp only
      rw [cond_f (decide_eq_false (by omega)), cond_f rfl]
    rw [this, Option.bind_some, aft_inl]
    exact ⟨_, rfl, rfl⟩
theorem take_p {F : Nat} (hF : 40000 < F) {a0 : List Int} (hb : AllB a0) (h : 4 ≤ a0.length) (big : Bool) {a2 : Int} (hc : cnt big a0 ≤ 4096) {n : Nat} (hn : (n : Int) = cnt big a0 * a2) (hn2 : n ≤ 36864) :
    ∃ r, p_TakeRow F a0 big a2 = some r ∧ r.2.2.2 = false ∧ (8 * n ≤ a0.length - 4 → r = ((List.range n).map (num big (a0.drop 4)), ((a0.length - 4 - 8 * n : Nat) : Int), true, false)) ∧ (a0.length - 4 < 8 * n → r.2.2.1 = false) := by
  have hcl := cnt_lt hb big
  unfold p_TakeRow
  rw [cond_f (decide_eq_false (by omega)), u4_loop (by omega) hb h, Option.bind_some, aft_inl]
  unfold p_TakeRow_k4
  have e4 : ((4 : Int)).toNat = 4 := rfl
  rw [e4, need_pos ⟨⟨by omega, trivial⟩, by omega, Nat.le_refl _⟩, cond_f (decide_eq_false (show ¬ (4096 : Int) < cnt big a0 by omega))]
  have hw : IntKind.i64.wrap (cnt big a0) = cnt big a0 := wi64 hcl.1 (by omega)
  rw [need_pos (by rw [hw, ← hn]; exact in64 (by omega) (by omega)), List.take_of_length_le (by rw [List.length_drop]; omega)]
  obtain ⟨r, h1, h2, h3⟩ := nums_loop (F0 := F) (by omega) (hb.drop 4) big hn hn2 hw n 0 F [] (by omega) (by omega) rfl (by omega)
  rw [Nat.mul_zero, List.drop_zero] at h1
  have h1' : iter (p_TakeRow_l13 big a2 F (cnt big a0)) F ((0 : Int), false, a0.drop 4, []) = some (.inl r) := h1
  rw [h1', Option.bind_some, aft_inl]
  rw [List.length_drop] at h2 h3
  by_cases h5 : 8 * n ≤ a0.length - 4
  · rw [h2 h5]
    refine ⟨_, rfl, rfl, fun _ => ?_, fun h => by omega⟩
    simp only [p_TakeRow_k12, List.length_drop, List.nil_append, Nat.zero_add]
    rfl
  · have h6 := h3 (by omega)
    unfold p_TakeRow_k12
    rw [h6, cond_f (show (!true) = false from rfl)]
    exact ⟨_, rfl, rfl, fun h => by omega, fun _ => rfl⟩
end Go.Proofs.YtjhdpnjlphpboaaDoor.Wk

set_option linter.unusedVariables false
set_option linter.unusedSimpArgs false
namespace Go.Proofs.YtjhdpnjlphpboaaDoor.Wk
open Go.Vm
theorem blen_p {b : TBytes_Buffer} (h1 : 0 ≤ b.off) (h2 : b.off ≤ b.buf.length) (h3 : b.buf.length ≤ 2000 := by first | omega | (simp; omega) | simp) : p_Buffer_Len b = some ((b.buf.length : Int) - b.off) := by
  unfold p_Buffer_Len
  rw [need_pos (in64m (by omega) (by omega))]
theorem set_fill {f : Nat → Nat} {n i : Nat} (hi : i < n) {s : List Nat} (hs : s = (List.range i).map f ++ List.replicate (n - i) 0) : s.set i (f i) = (List.range (i + 1)).map f ++ List.replicate (n - (i + 1)) 0 := by
  subst hs
  rw [List.set_append_right _ _ (by simp), List.length_map, List.length_range, Nat.sub_self, show n - i = (n - (i + 1)) + 1 by omega, List.replicate_succ, List.set_cons_zero, List.range_succ, List.map_append, List.append_assoc]
  rfl
theorem num_take {B : Bool} {D : List Int} {n : Nat} : (List.range n).map (num B (D.take (8 * n))) = (List.range n).map (num B D) := by
  apply List.map_congr_left
  intro j hj
  have hj' : j < n := by simpa using hj
  unfold num num8
  rw [List.drop_take, List.take_take, Nat.min_eq_left (by omega)]
theorem conv_b {F : Nat} {a2 v : Int} {n : Nat} (hn : (n : Int) = v * a2) (hn2 : n ≤ 36864) (hF : 40000 < F) {c : List Int} (hc : AllB c) (hl : 8 * n ≤ c.length) :
    iter (p_ReadFlat1_l4 a2 v c) F ((0 : Int), List.replicate n 0) = some (.inl ((List.range n).map (num true c))) := by
  obtain ⟨s, hs, h⟩ := fold_ex (V := List Nat) (T := List Nat × Int × Bool) (List.range n) (p_ReadFlat1_l4 a2 v c) (fun i s => ((i : Int), s)) (fun s => s) (fun i s => s = (List.range i).map (num true c) ++ List.replicate (n - i) 0)
    (fun K s hs => by
      unfold p_ReadFlat1_l4
      dsimp only
      rw [← hn, Int.toNat_natCast, List.length_range, cond_f (decide_eq_false (by omega))])
    (fun i x s hx hs => by
      have hi : i < n := by have := lt_get hx; rwa [List.length_range] at this
      refine ⟨_, set_fill (f := num true c) hi hs, fun K => ?_⟩
      unfold p_ReadFlat1_l4
      dsimp only
      have hsl : s.length = n := by rw [hs]; simp; omega
      have e8 : ((8 : Int) * (i : Int)).toNat = 8 * i := by omega
      have hv := num8_lt (hc.drop (8 * i)) true
      rw [← hn, Int.toNat_natCast, cond_t (decide_eq_true (by omega)), need_pos (in64m (by omega) (by omega)), e8, need_pos ⟨⟨by omega, trivial⟩, by omega, Nat.le_refl _⟩,
        List.take_of_length_le (by rw [List.length_drop]; omega), be_p _ (hc.drop _) (by rw [List.length_drop]; omega), Option.bind_some, need_pos (by omega), need_pos (by omega), Int.toNat_natCast, need_pos (by omega), need_pos (in64m (by omega) (by omega)), succ_cast]
      rfl) F 0 (List.replicate n 0) (by rw [List.length_range]; omega) (by omega) (by simp)
  rw [List.length_range] at hs
  rw [show ((0 : Int)) = ((0 : Nat) : Int) from rfl, h, hs]
  simp
theorem convz_b {F : Nat} {a2 v : Int} (hn : (0 : Int) = v * a2) (hF : 0 < F) :
    iter (p_ReadFlat1_l6 a2 v) F ((0 : Int), List.replicate 0 0) = some (.inl []) := by
  match F, hF with
  | F + 1, _ =>
    show p_ReadFlat1_l6 a2 v (iter _ F) _ = _
    unfold p_ReadFlat1_l6
    dsimp only
    rw [← hn, cond_f (decide_eq_false (by simp))]
    rfl
theorem two_b {F : Nat} {a2 v : Int} {n : Nat} (hn : (n : Int) = v * a2) (hn2 : n ≤ 36864) (h0 : 0 < n) (hF : 40000 < F) {a0 : List Int} (hb : AllB a0) (h4 : 4 ≤ a0.length) (hlen : a0.length ≤ 2000) (h5 : 4 < a0.length) (g : Int) {m : Nat} (hm : m = min (a0.length - 4) (8 * n)) {c : List Int}
    (hc : c = (a0.drop 4).take m ++ (List.replicate (8 * n) (0 : Int)).drop m) :
    ∃ r, p_ReadFlat1_k2 a0 a2 F 4 v m c g = some r ∧ (8 * n ≤ a0.length - 4 → r = ((List.range n).map (num true (a0.drop 4)), ((a0.length - 4 - 8 * n : Nat) : Int), true)) ∧ (a0.length - 4 < 8 * n → r.2.2 = false) := by
  unfold p_ReadFlat1_k2
  have e8 : ((8 : Int) * ((n : Nat) : Int)).toNat = 8 * n := by omega
  rw [← hn, Int.toNat_natCast, e8, need_pos (in64m (by omega) (by omega))]
  by_cases h : 8 * n ≤ a0.length - 4
  · have hm' : m = 8 * n := by omega
    have hcl : c = (a0.drop 4).take (8 * n) := by rw [hc, hm', List.drop_of_length_le (l := List.replicate (8 * n) (0 : Int)) (by simp), List.append_nil]
    have hclen : c.length = 8 * n := by rw [hcl, List.length_take, List.length_drop]; omega
    rw [cond_f (decide_eq_false (by omega)), need_pos (by omega), conv_b hn hn2 hF (by rw [hcl]; exact (hb.drop 4).take _) (by omega), Option.bind_some, aft_inl]
    unfold p_ReadFlat1_k3
    rw [← hn, Int.toNat_natCast, need_pos (by simp), blen_p (by dsimp only; omega) (by dsimp only; omega), Option.bind_some]
    refine ⟨_, rfl, fun _ => ?_, fun h' => by omega⟩
    dsimp only
    rw [hcl, num_take, show ((a0.length : Int) - (((4 : Nat) : Int) + (m : Int))) = ((a0.length - 4 - 8 * n : Nat) : Int) by omega]
  · have hm' : m = a0.length - 4 := by omega
    rw [cond_t (decide_eq_true (by omega)), need_pos (by omega), cond_t (decide_eq_true (by omega)), need_pos ⟨⟨trivial, by omega⟩, by omega, by simp⟩, cond_f (decide_eq_false (by omega)), need_pos (in64m (by omega) (by omega)), cond_t (decide_eq_true (by omega)),
      blen_p (by first | (dsimp only; omega) | simp) (by first | (dsimp only; omega) | simp), Option.bind_some]
    exact ⟨_, rfl, fun h' => by omega, fun _ => rfl⟩
theorem one_b {F : Nat} {a2 : Int} {n : Nat} (hF : 40000 < F) {a0 : List Int} (hb : AllB a0) (h4 : 4 ≤ a0.length) (hlen : a0.length ≤ 2000) (hn : (n : Int) = cnt true a0 * a2) (hn2 : n ≤ 36864) (g : Int) {c : List Int} (hc : c = a0.take 4) :
    ∃ r, p_ReadFlat1_k1 a0 a2 F 4 c g = some r ∧ (8 * n ≤ a0.length - 4 → r = ((List.range n).map (num true (a0.drop 4)), ((a0.length - 4 - 8 * n : Nat) : Int), true)) ∧ (a0.length - 4 < 8 * n → r.2.2 = false) := by
  obtain ⟨c0, c1, c2, c3, rr, h0⟩ := four h4
  have hce : c = [c0, c1, c2, c3] := by rw [hc, h0]; rfl
  have hbc : AllB [c0, c1, c2, c3] := by rw [← hce, hc]; exact hb.take 4
  have hcn : val [c0, c1, c2, c3] = cnt true a0 := by unfold cnt; rw [← hc, hce]; rfl
  have hval := or32_p (h := show AllB [c0, c1, c2, c3] from hbc)
  have i' : idx [c0, c1, c2, c3] (0 : Int) = some c0 ∧ idx [c0, c1, c2, c3] (1 : Int) = some c1 ∧ idx [c0, c1, c2, c3] (2 : Int) = some c2 ∧ idx [c0, c1, c2, c3] (3 : Int) = some c3 :=
    ⟨idx_get (k := 0) rfl, idx_get (k := 1) rfl, idx_get (k := 2) rfl, idx_get (k := 3) rfl⟩
  obtain ⟨j0, j1, j2, j3⟩ := i'
  unfold p_ReadFlat1_k1
  rw [hce, need_pos (in64m (by omega) (by omega)), cond_f (decide_eq_false (by omega)), j0, j1, j2, j3]
  simp only [Option.bind_some]
  rw [need_pos (by omega), need_pos (by omega), need_pos (by omega), need_pos (by omega), need_pos (by omega), hval, hcn, ← hn, Int.toNat_natCast]
  have e8 : ((8 : Int) * ((n : Nat) : Int)).toNat = 8 * n := by omega
  have e4 : (((4 : Nat) : Int)).toNat = 4 := rfl
  rw [e8, e4, need_pos (in64m (by omega) (by omega)), need_pos (by omega), need_pos (in64m (by omega) (by omega)), need_pos (by omega)]
  by_cases hz : 0 < n
  · rw [cond_t (decide_eq_true (by omega))]
    by_cases h5 : 4 < a0.length
    · rw [cond_f (decide_eq_false (by omega)), need_pos ⟨⟨by omega, trivial⟩, by omega, Nat.le_refl _⟩, need_pos (by simp), List.take_of_length_le (l := a0.drop 4) (i := a0.length - 4) (by rw [List.length_drop]; omega)]
      generalize hM : min (a0.drop 4).length (List.replicate (8 * n) (0 : Int)).length = M
      have hm : M = min (a0.length - 4) (8 * n) := by rw [← hM]; simp
      rw [need_pos (in64m (by omega) (by omega))]
      have key := fun g' => two_b (v := cnt true a0) hn hn2 hz hF hb h4 hlen h5 g' hm rfl
      rw [cond_if]
      split
      · exact key _
      · exact key _
    · rw [cond_t (decide_eq_true (by omega)), need_pos ⟨⟨trivial, by omega⟩, by omega, by simp⟩, cond_f (decide_eq_false (by omega)), blen_p (by first | (dsimp only; omega) | simp) (by first | (dsimp only; omega) | simp), Option.bind_some]
      exact ⟨_, rfl, fun h' => by omega, fun _ => rfl⟩
  · have hz' : n = 0 := by omega
    subst hz'
    rw [cond_f (decide_eq_false (by omega)), need_pos (by simp), convz_b (v := cnt true a0) (by rw [← hn]; rfl) (by omega), Option.bind_some, aft_inl]
    unfold p_ReadFlat1_k5
    rw [← hn, Int.toNat_natCast, need_pos (by simp), blen_p (by dsimp only; omega) (by dsimp only; omega), Option.bind_some]
    refine ⟨_, rfl, fun _ => ?_, fun h' => by omega⟩
    dsimp only
    rw [show ((a0.length : Int) - ((4 : Nat) : Int)) = ((a0.length - 4 - 8 * 0 : Nat) : Int) by omega]
    rfl
theorem oneS_b {F : Nat} {a2 : Int} {a0 : List Int} (h4 : a0.length < 4) (h0 : 0 < a0.length) (g : Int) {c : List Int} : ∃ r, p_ReadFlat1_k1 a0 a2 F a0.length c g = some r ∧ r.2.2 = false := by
  unfold p_ReadFlat1_k1
  rw [need_pos (in64m (by omega) (by omega)), cond_t (decide_eq_true (by omega)), need_pos (by omega), cond_t (decide_eq_true (by omega)), need_pos ⟨⟨trivial, by omega⟩, by omega, by simp⟩, cond_f (decide_eq_false (by omega)), need_pos (in64m (by omega) (by omega)), cond_t (decide_eq_true (by omega)),
    blen_p (by first | (dsimp only; omega) | simp) (by first | (dsimp only; omega) | simp), Option.bind_some]
  exact ⟨_, rfl, rfl⟩
theorem conv_l {F : Nat} {a2 v : Int} {n : Nat} (hn : (n : Int) = v * a2) (hn2 : n ≤ 36864) (hF : 40000 < F) {c : List Int} (hc : AllB c) (hl : 8 * n ≤ c.length) :
    iter (p_ReadFlat1_l10 a2 v c) F ((0 : Int), List.replicate n 0) = some (.inl ((List.range n).map (num false c))) := by
  obtain ⟨s, hs, h⟩ := fold_ex (V := List Nat) (T := List Nat × Int × Bool) (List.range n) (p_ReadFlat1_l10 a2 v c) (fun i s => ((i : Int), s)) (fun s => s) (fun i s => s = (List.range i).map (num false c) ++ List.replicate (n - i) 0)
    (fun K s hs => by
      unfold p_ReadFlat1_l10
      dsimp only
      rw [← hn, Int.toNat_natCast, List.length_range, cond_f (decide_eq_false (by omega))])
    (fun i x s hx hs => by
      have hi : i < n := by have := lt_get hx; rwa [List.length_range] at this
      refine ⟨_, set_fill (f := num false c) hi hs, fun K => ?_⟩
      unfold p_ReadFlat1_l10
      dsimp only
      have hsl : s.length = n := by rw [hs]; simp; omega
      have e8 : ((8 : Int) * (i : Int)).toNat = 8 * i := by omega
      have hv := num8_lt (hc.drop (8 * i)) false
      rw [← hn, Int.toNat_natCast, cond_t (decide_eq_true (by omega)), need_pos (in64m (by omega) (by omega)), e8, need_pos ⟨⟨by omega, trivial⟩, by omega, Nat.le_refl _⟩,
        List.take_of_length_le (by rw [List.length_drop]; omega), le_p _ (hc.drop _) (by rw [List.length_drop]; omega), Option.bind_some, need_pos (by omega), need_pos (by omega), Int.toNat_natCast, need_pos (by omega), need_pos (in64m (by omega) (by omega)), succ_cast]
      rfl) F 0 (List.replicate n 0) (by rw [List.length_range]; omega) (by omega) (by simp)
  rw [List.length_range] at hs
  rw [show ((0 : Int)) = ((0 : Nat) : Int) from rfl, h, hs]
  simp
theorem convz_l {F : Nat} {a2 v : Int} (hn : (0 : Int) = v * a2) (hF : 0 < F) :
    iter (p_ReadFlat1_l12 a2 v) F ((0 : Int), List.replicate 0 0) = some (.inl []) := by
  match F, hF with
  | F + 1, _ =>
    show p_ReadFlat1_l12 a2 v (iter _ F) _ = _
    unfold p_ReadFlat1_l12
    dsimp only
    rw [← hn, cond_f (decide_eq_false (by simp))]
    rfl
theorem two_l {F : Nat} {a2 v : Int} {n : Nat} (hn : (n : Int) = v * a2) (hn2 : n ≤ 36864) (h0 : 0 < n) (hF : 40000 < F) {a0 : List Int} (hb : AllB a0) (h4 : 4 ≤ a0.length) (hlen : a0.length ≤ 2000) (h5 : 4 < a0.length) (g : Int) {m : Nat} (hm : m = min (a0.length - 4) (8 * n)) {c : List Int}
    (hc : c = (a0.drop 4).take m ++ (List.replicate (8 * n) (0 : Int)).drop m) :
    ∃ r, p_ReadFlat1_k8 a0 a2 F 4 v m c g = some r ∧ (8 * n ≤ a0.length - 4 → r = ((List.range n).map (num false (a0.drop 4)), ((a0.length - 4 - 8 * n : Nat) : Int), true)) ∧ (a0.length - 4 < 8 * n → r.2.2 = false) := by
  unfold p_ReadFlat1_k8
  have e8 : ((8 : Int) * ((n : Nat) : Int)).toNat = 8 * n := by omega
  rw [← hn, Int.toNat_natCast, e8, need_pos (in64m (by omega) (by omega))]
  by_cases h : 8 * n ≤ a0.length - 4
  · have hm' : m = 8 * n := by omega
    have hcl : c = (a0.drop 4).take (8 * n) := by rw [hc, hm', List.drop_of_length_le (l := List.replicate (8 * n) (0 : Int)) (by simp), List.append_nil]
    have hclen : c.length = 8 * n := by rw [hcl, List.length_take, List.length_drop]; omega
    rw [cond_f (decide_eq_false (by omega)), need_pos (by omega), conv_l hn hn2 hF (by rw [hcl]; exact (hb.drop 4).take _) (by omega), Option.bind_some, aft_inl]
    unfold p_ReadFlat1_k9
    rw [← hn, Int.toNat_natCast, need_pos (by simp), blen_p (by dsimp only; omega) (by dsimp only; omega), Option.bind_some]
    refine ⟨_, rfl, fun _ => ?_, fun h' => by omega⟩
    dsimp only
    rw [hcl, num_take, show ((a0.length : Int) - (((4 : Nat) : Int) + (m : Int))) = ((a0.length - 4 - 8 * n : Nat) : Int) by omega]
  · have hm' : m = a0.length - 4 := by omega
    rw [cond_t (decide_eq_true (by omega)), need_pos (by omega), cond_t (decide_eq_true (by omega)), need_pos ⟨⟨trivial, by omega⟩, by omega, by simp⟩, cond_f (decide_eq_false (by omega)), need_pos (in64m (by omega) (by omega)), cond_t (decide_eq_true (by omega)),
      blen_p (by first | (dsimp only; omega) | simp) (by first | (dsimp only; omega) | simp), Option.bind_some]
    exact ⟨_, rfl, fun h' => by omega, fun _ => rfl⟩
theorem one_l {F : Nat} {a2 : Int} {n : Nat} (hF : 40000 < F) {a0 : List Int} (hb : AllB a0) (h4 : 4 ≤ a0.length) (hlen : a0.length ≤ 2000) (hn : (n : Int) = cnt false a0 * a2) (hn2 : n ≤ 36864) (g : Int) {c : List Int} (hc : c = a0.take 4) :
    ∃ r, p_ReadFlat1_k7 a0 a2 F 4 c g = some r ∧ (8 * n ≤ a0.length - 4 → r = ((List.range n).map (num false (a0.drop 4)), ((a0.length - 4 - 8 * n : Nat) : Int), true)) ∧ (a0.length - 4 < 8 * n → r.2.2 = false) := by
  obtain ⟨c0, c1, c2, c3, rr, h0⟩ := four h4
  have hce : c = [c0, c1, c2, c3] := by rw [hc, h0]; rfl
  have hbc : AllB [c0, c1, c2, c3] := by rw [← hce, hc]; exact hb.take 4
  have hcn : val [c3, c2, c1, c0] = cnt false a0 := by unfold cnt; rw [← hc, hce]; rfl
  have hval := or32_p (h := show AllB [c3, c2, c1, c0] from hbc.rev)
  have i' : idx [c0, c1, c2, c3] (0 : Int) = some c0 ∧ idx [c0, c1, c2, c3] (1 : Int) = some c1 ∧ idx [c0, c1, c2, c3] (2 : Int) = some c2 ∧ idx [c0, c1, c2, c3] (3 : Int) = some c3 :=
    ⟨idx_get (k := 0) rfl, idx_get (k := 1) rfl, idx_get (k := 2) rfl, idx_get (k := 3) rfl⟩
  obtain ⟨j0, j1, j2, j3⟩ := i'
  unfold p_ReadFlat1_k7
  rw [hce, need_pos (in64m (by omega) (by omega)), cond_f (decide_eq_false (by omega)), j0, j1, j2, j3]
  simp only [Option.bind_some]
  rw [need_pos (by omega), need_pos (by omega), need_pos (by omega), need_pos (by omega), need_pos (by omega), hval, hcn, ← hn, Int.toNat_natCast]
  have e8 : ((8 : Int) * ((n : Nat) : Int)).toNat = 8 * n := by omega
  have e4 : (((4 : Nat) : Int)).toNat = 4 := rfl
  rw [e8, e4, need_pos (in64m (by omega) (by omega)), need_pos (by omega), need_pos (in64m (by omega) (by omega)), need_pos (by omega)]
  by_cases hz : 0 < n
  · rw [cond_t (decide_eq_true (by omega))]
    by_cases h5 : 4 < a0.length
    · rw [cond_f (decide_eq_false (by omega)), need_pos ⟨⟨by omega, trivial⟩, by omega, Nat.le_refl _⟩, need_pos (by simp), List.take_of_length_le (l := a0.drop 4) (i := a0.length - 4) (by rw [List.length_drop]; omega)]
      generalize hM : min (a0.drop 4).length (List.replicate (8 * n) (0 : Int)).length = M
      have hm : M = min (a0.length - 4) (8 * n) := by rw [← hM]; simp
      rw [need_pos (in64m (by omega) (by omega))]
      have key := fun g' => two_l (v := cnt false a0) hn hn2 hz hF hb h4 hlen h5 g' hm rfl
      rw [cond_if]
      split
      · exact key _
      · exact key _
    · rw [cond_t (decide_eq_true (by omega)), need_pos ⟨⟨trivial, by omega⟩, by omega, by simp⟩, cond_f (decide_eq_false (by omega)), blen_p (by first | (dsimp only; omega) | simp) (by first | (dsimp only; omega) | simp), Option.bind_some]
      exact ⟨_, rfl, fun h' => by omega, fun _ => rfl⟩
  · have hz' : n = 0 := by omega
    subst hz'
    rw [cond_f (decide_eq_false (by omega)), need_pos (by simp), convz_l (v := cnt false a0) (by rw [← hn]; rfl) (by omega), Option.bind_some, aft_inl]
    unfold p_ReadFlat1_k11
    rw [← hn, Int.toNat_natCast, need_pos (by simp), blen_p (by dsimp only; omega) (by dsimp only; omega), Option.bind_some]
    refine ⟨_, rfl, fun _ => ?_, fun h' => by omega⟩
    dsimp only
    rw [show ((a0.length : Int) - ((4 : Nat) : Int)) = ((a0.length - 4 - 8 * 0 : Nat) : Int) by omega]
    rfl
theorem oneS_l {F : Nat} {a2 : Int} {a0 : List Int} (h4 : a0.length < 4) (h0 : 0 < a0.length) (g : Int) {c : List Int} : ∃ r, p_ReadFlat1_k7 a0 a2 F a0.length c g = some r ∧ r.2.2 = false := by
  unfold p_ReadFlat1_k7
  rw [need_pos (in64m (by omega) (by omega)), cond_t (decide_eq_true (by omega)), need_pos (by omega), cond_t (decide_eq_true (by omega)), need_pos ⟨⟨trivial, by omega⟩, by omega, by simp⟩, cond_f (decide_eq_false (by omega)), need_pos (in64m (by omega) (by omega)), cond_t (decide_eq_true (by omega)),
    blen_p (by first | (dsimp only; omega) | simp) (by first | (dsimp only; omega) | simp), Option.bind_some]
  exact ⟨_, rfl, rfl⟩
end Go.Proofs.YtjhdpnjlphpboaaDoor.Wk

set_option linter.unusedVariables false
set_option linter.unusedSimpArgs false
namespace Go.Proofs.YtjhdpnjlphpboaaDoor.Wk
open Go.Vm
theorem read_long {F : Nat} {a2 : Int} {n : Nat} (hF : 40000 < F) {a0 : List Int} (hb : AllB a0) (h4 : 4 ≤ a0.length) (hlen : a0.length ≤ 2000) (big : Bool) (hn : (n : Int) = cnt big a0 * a2) (hn2 : n ≤ 36864) :
    ∃ r, p_ReadFlat1 F a0 big a2 = some r ∧ (8 * n ≤ a0.length - 4 → r = ((List.range n).map (num big (a0.drop 4)), ((a0.length - 4 - 8 * n : Nat) : Int), true)) ∧ (a0.length - 4 < 8 * n → r.2.2 = false) := by
  have e0 : ((0 : Int)).toNat = 0 := rfl
  have hm : (min ((a0.drop 0).take (a0.length - 0)).length [(0 : Int), (0 : Int), (0 : Int), (0 : Int)].length) = 4 := by simp; omega
  have hc : ((a0.drop 0).take (a0.length - 0)).take 4 ++ [(0 : Int), (0 : Int), (0 : Int), (0 : Int)].drop 4 = a0.take 4 := by simp
  unfold p_ReadFlat1
  rw [e0, hm]
  simp only [Option.bind_some]
  rw [hc]
  cases big with
  | true =>
    rw [cond_t rfl, cond_f (decide_eq_false (by omega)), need_pos ⟨⟨by omega, trivial⟩, by omega, Nat.le_refl _⟩, need_pos (show 4 = [(0 : Int), 0, 0, 0].length from rfl), need_pos (in64m (by omega) (by omega)), cond_if]
    split
    · exact one_b hF hb h4 hlen hn hn2 _ rfl
    · exact one_b hF hb h4 hlen hn hn2 _ rfl
  | false =>
    rw [cond_f rfl, cond_f (decide_eq_false (by omega)), need_pos ⟨⟨by omega, trivial⟩, by omega, Nat.le_refl _⟩, need_pos (show 4 = [(0 : Int), 0, 0, 0].length from rfl), need_pos (in64m (by omega) (by omega)), cond_if]
    split
    · exact one_l hF hb h4 hlen hn hn2 _ rfl
    · exact one_l hF hb h4 hlen hn hn2 _ rfl
theorem read_short {F : Nat} {a2 : Int} {a0 : List Int} (h4 : a0.length < 4) (big : Bool) : ∃ r, p_ReadFlat1 F a0 big a2 = some r ∧ r.2.2 = false := by
  have e0 : ((0 : Int)).toNat = 0 := rfl
  have hm : (min ((a0.drop 0).take (a0.length - 0)).length [(0 : Int), (0 : Int), (0 : Int), (0 : Int)].length) = a0.length := by simp; omega
  unfold p_ReadFlat1
  rw [e0, hm]
  simp only [Option.bind_some]
  by_cases h0 : 0 < a0.length
  · cases big with
    | true =>
      rw [cond_t rfl, cond_f (decide_eq_false (by omega)), need_pos ⟨⟨by omega, trivial⟩, by omega, Nat.le_refl _⟩, need_pos (show 4 = [(0 : Int), 0, 0, 0].length from rfl), need_pos (in64m (by omega) (by omega)), cond_if]
      split
      · exact oneS_b h4 h0 _
      · exact oneS_b h4 h0 _
    | false =>
      rw [cond_f rfl, cond_f (decide_eq_false (by omega)), need_pos ⟨⟨by omega, trivial⟩, by omega, Nat.le_refl _⟩, need_pos (show 4 = [(0 : Int), 0, 0, 0].length from rfl), need_pos (in64m (by omega) (by omega)), cond_if]
      split
      · exact oneS_l h4 h0 _
      · exact oneS_l h4 h0 _
  · have hz : ((a0.length : Nat) : Int) ≤ 0 := by omega
    rw [cond_if, blen_p (by first | (dsimp only; omega) | simp) (by first | (dsimp only; omega) | simp), Option.bind_some]
    split
    · rw [cond_t (decide_eq_true hz), need_pos ⟨⟨trivial, by omega⟩, by omega, by omega⟩]
      exact ⟨_, rfl, rfl⟩
    · rw [cond_t (decide_eq_true hz), need_pos ⟨⟨trivial, by omega⟩, by omega, by omega⟩]
      exact ⟨_, rfl, rfl⟩
theorem same_p {F : Nat} (l : List Nat) (hl : l.length ≤ 40000) (hF : 40010 < F) : p_SameFloats F l l = some true := by
  unfold p_SameFloats
  rw [cond_f (nF rfl)]
  have hs := scan_loop0 l (p_SameFloats_l2 l l) (fun _ => true) false
    (fun K k hk => by unfold p_SameFloats_l2; rw [cond_f (decide_eq_false (by omega))])
    (fun K k x hx => by
      have hk := (List.getElem?_eq_some_iff.1 hx).1
      unfold p_SameFloats_l2
      rw [cond_t (decide_eq_true (by omega)), idx_get hx, Option.bind_some, Option.bind_some, cond_f (nF rfl), succ_cast, need_pos (in64m (by omega) (by omega)), if_pos rfl]) (F := F) (by omega)
  have : (l.all fun _ => true) = true := by simp
  rw [if_pos this] at hs
  rw [hs, Option.bind_some, aft_inl]
  rfl
theorem zero_p {F : Nat} (hF : 40000 < F) (big : Bool) : ∃ r, p_ReadFlat1 F (List.replicate ((4 : Int)).toNat (0 : Int)) big (2 : Int) = some r ∧ r.2.2 = true := by
  have e : List.replicate ((4 : Int)).toNat (0 : Int) = [0, 0, 0, 0] := rfl
  rw [e]
  have hb : AllB [0, 0, 0, 0] := fun z hz => by simp at hz; subst hz; omega
  have hc : cnt big [0, 0, 0, 0] = 0 := by cases big <;> rfl
  obtain ⟨r, h1, h2, _⟩ := read_long (n := 0) (a2 := 2) hF hb (by simp) (by simp) big (by rw [hc]; rfl) (by omega)
  exact ⟨r, h1, by rw [h2 (by simp)]⟩
theorem read_law {F : Nat} (hF : 40010 < F) {a0 : List Int} (hb : AllB a0) (big : Bool) (a2 : Int) : p_FnReadFlat1 F a0 big a2 = some true := by
  unfold p_FnReadFlat1
  by_cases h1 : (2147483647 : Int) < a0.length
  · rw [cond_t (decide_eq_true h1)]
  rw [cond_f (decide_eq_false h1)]
  by_cases h2 : (2000 : Int) < a0.length
  · rw [cond_t (decide_eq_true h2)]; rfl
  rw [cond_f (decide_eq_false h2)]
  have hst : p_fStride a2 = some (decide (2 ≤ a2) && decide (a2 ≤ 9)) := by
    unfold p_fStride
    by_cases h : (2 : Int) ≤ a2
    · rw [cond_t (decide_eq_true h), decide_eq_true h, Bool.true_and]
    · rw [cond_f (decide_eq_false h), decide_eq_false h, Bool.false_and]
  rw [hst, Option.bind_some]
  unfold p_FnReadFlat1_k1
  by_cases hs : (2 ≤ a2) ∧ (a2 ≤ 9)
  · rw [cond_f (by rw [decide_eq_true hs.1, decide_eq_true hs.2]; rfl)]
    obtain ⟨rz, z1, z2⟩ := zero_p (F := F) (by omega) big
    rw [z1]
    by_cases h4 : 4 ≤ a0.length
    · by_cases hc : cnt big a0 ≤ 4096
      · have hcl := cnt_lt hb big
        have hp : 0 ≤ cnt big a0 * a2 := Int.mul_nonneg hcl.1 (by omega)
        have hp2 : cnt big a0 * a2 ≤ 4096 * 9 := Int.mul_le_mul hc hs.2 (by omega) (by omega)
        obtain ⟨n, hn⟩ := Int.eq_ofNat_of_zero_le hp
        obtain ⟨r, t1, t2, t3, t4⟩ := take_p (F := F) (by omega) hb h4 big hc hn.symm (by omega)
        obtain ⟨q, r1, r2, r3⟩ := read_long (F := F) (by omega) hb h4 (by omega) big hn.symm (by omega)
        rw [t1, Option.bind_some, t2, cond_f rfl, r1, Option.bind_some, need_pos (by omega), need_pos (show ((4 : Int)).toNat = (List.replicate ((4 : Int)).toNat (0 : Int)).length from rfl), Option.bind_some, z2, cond_t rfl]
        by_cases h8 : 8 * n ≤ a0.length - 4
        · rw [t3 h8, r2 h8]
          dsimp only
          rw [cond_t (show (true == true) = true from rfl), cond_f (show (!true) = false from rfl), same_p _ (by simp; omega) hF, Option.bind_some, cond_t rfl, decide_eq_true rfl]
        · rw [t4 (by omega), r3 (by omega), cond_t (show (false == false) = true from rfl), cond_t (show (!false) = true from rfl)]
      · obtain ⟨r, t1, t2⟩ := take_great (F := F) (by omega) hb h4 big a2 (by omega)
        rw [t1, Option.bind_some, t2, cond_t rfl]
    · obtain ⟨r, t1, t2, t3⟩ := take_short (F := F) (by omega) (a0 := a0) (by omega) big a2
      obtain ⟨q, r1, r2⟩ := read_short (F := F) (a2 := a2) (a0 := a0) (by omega) big
      rw [t1, Option.bind_some, t2, cond_f rfl, r1, Option.bind_some, need_pos (by omega), need_pos (show ((4 : Int)).toNat = (List.replicate ((4 : Int)).toNat (0 : Int)).length from rfl), Option.bind_some, z2, cond_t rfl, t3, r2, cond_t (show (false == false) = true from rfl), cond_t (show (!false) = true from rfl)]
  · rw [cond_t]
    by_cases h : (2 : Int) ≤ a2
    · rw [decide_eq_false (show ¬ a2 ≤ 9 by omega), Bool.and_false]; rfl
    · rw [decide_eq_false h, Bool.false_and]; rfl
theorem law_read {F : Nat} (hF : 40010 < F) (a0 : List Int) (big : Bool) (a2 : Int) (hb : AllB a0) :
    FnD Tryd.prog 3 [eS0 a0, dbool big, di .i64 a2] (fun r => r = dbool true) := w_FnReadFlat1 F a0 big a2 true (read_law hF hb big a2)
end Go.Proofs.YtjhdpnjlphpboaaDoor.Wk
