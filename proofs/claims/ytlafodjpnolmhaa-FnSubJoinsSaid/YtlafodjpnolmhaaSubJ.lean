/- Proved: the parts of a line up to a place and from it on have all its places. -/
import Derived.Test.YtlafodjpnolmhaaGeoG
namespace Go.Proofs.Ytlafodjpnolmhaa.Wk
open Go.Vm
set_option linter.unusedVariables false
set_option linter.unusedSimpArgs false
theorem sameF_p {F : Nat} (l : List Nat) (hl : l.length ≤ 4294967296) (hF : l.length < F) : p_SameFloats F l l = some true := by
  unfold p_SameFloats
  rw [cond_f (nF rfl)]
  have hs := scan_loop0 l (p_SameFloats_l2 l l) (fun _ => true) false
    (fun K k hk => by unfold p_SameFloats_l2; rw [cond_f (decide_eq_false (by omega))])
    (fun K k x hx => by
      have hk := (List.getElem?_eq_some_iff.1 hx).1
      unfold p_SameFloats_l2
      rw [cond_t (decide_eq_true (by omega)), idx_get hx, Option.bind_some, Option.bind_some, cond_f (nF rfl), succ_cast, need_pos (in64m (by omega) (by omega)), if_pos rfl]) (F := F) (by omega)
  have : (l.all fun _ => true) = true := by simp
  rw [if_pos this] at hs
  rw [hs, Option.bind_some, aft_inl]
  rfl
theorem sub_p {g : TImpl_Geom} {F s a b : Nat} (hF : 2 ≤ F) (hk : g.Kind = 2) (hs : p_Layout_Stride g.Layout = some (s : Int)) (hl : g.Flat.length ≤ 2147483647) (hab : a * s ≤ b * s) (hb : b * s ≤ g.Flat.length) :
    p_Sub F g (a : Int) (b : Int) = some (⟨2, g.Layout, 0, (g.Flat.drop (a * s)).take (b * s - a * s), [], [], []⟩, true) := by
  have fl : ∀ l : List Nat, l.length ≤ g.Flat.length → p_floats l = some l := fun l h => by unfold p_floats; rw [need_pos (by omega)]
  have il : p_ints [] = some [] := rfl
  have isl : p_intss F [] = some [] := by
    obtain ⟨G, rfl⟩ : ∃ G, F = G + 1 := ⟨F - 1, by omega⟩
    rfl
  have nl : ∀ l : List Nat, p_NewLineStringFlat g.Layout l = some ⟨⟨⟨g.Layout, (s : Int), l, 0⟩⟩⟩ := fun l => by unfold p_NewLineStringFlat; rw [hs, Option.bind_some]
  have ca : ((a : Int) * (s : Int)) = ((a * s : Nat) : Int) := by simp
  have cb : ((b : Int) * (s : Int)) = ((b * s : Nat) : Int) := by simp
  unfold p_Sub
  rw [fl g.Flat (Nat.le_refl _), Option.bind_some, cond_f (decide_eq_false (by omega)), cond_t (decide_eq_true hk), nl, Option.bind_some]
  dsimp only
  rw [ca, cb, need_pos (in64 (by omega) (by omega)), need_pos (in64 (by omega) (by omega)), Int.toNat_natCast, Int.toNat_natCast, need_pos ⟨⟨by omega, by omega⟩, hab, hb⟩, nl, Option.bind_some]
  dsimp only
  rw [fl _ (by rw [List.length_take, List.length_drop]; omega), Option.bind_some, il, Option.bind_some, isl, Option.bind_some]
theorem law_subjoins {g : TImpl_Geom} {F : Nat} (hw : WfG g) (hF : gF g + 2147483660 ≤ F) (at_ : Int) : p_FnSubJoins F g at_ = some true := by
  have kt : p_FnSubJoins_k1 g at_ F true = some true := by unfold p_FnSubJoins_k1; rw [cond_t rfl]
  unfold p_FnSubJoins
  obtain ⟨b, hb, hb2⟩ := zzFits2_p (F := F) (by omega) hw
  rw [hb, Option.bind_some]
  cases b with
  | false => rw [cond_t (rfl : (!false) = true)]
  | true =>
    obtain ⟨hl, -, -, -, -⟩ := hb2 rfl
    rw [cond_f (rfl : (!true) = false)]
    obtain ⟨c, hc, hc2⟩ := gGood_p hw (F := F) (by omega)
    rw [hc, Option.bind_some]
    cases c with
    | false => rw [cond_t (rfl : (!false) = true), kt]
    | true =>
      rw [cond_f (rfl : (!true) = false)]
      by_cases hk : g.Kind = 2
      · rw [nF hk]
        obtain ⟨s, G⟩ := (hc2 rfl).1 (by omega)
        have s2 := G.s2
        unfold p_FnSubJoins_k1
        have hdiv : Int.tdiv ((g.Flat.length : Nat) : Int) (s : Int) = ((g.Flat.length / s : Nat) : Int) := rfl
        have hmul : g.Flat.length / s * s = g.Flat.length := by
          have := Nat.div_add_mod g.Flat.length s
          rw [G.dvd, Nat.add_zero, Nat.mul_comm] at this
          exact this
        have hle : g.Flat.length / s ≤ g.Flat.length := Nat.div_le_self _ _
        obtain ⟨q, hq⟩ : ∃ q, q = g.Flat.length / s := ⟨_, rfl⟩
        rw [← hq] at hdiv hmul hle
        clear hq
        rw [cond_f rfl, G.str, Option.bind_some, hdiv, need_pos ⟨by omega, in64 (by omega) (by omega)⟩]
        have k2t : p_FnSubJoins_k2 g at_ F (s : Int) true = some true := by unfold p_FnSubJoins_k2; rw [cond_t rfl]
        by_cases c1 : at_ < 0
        · rw [cond_t (decide_eq_true c1), k2t]
        rw [cond_f (decide_eq_false c1)]
        by_cases c2 : ((q : Nat) : Int) < at_
        · rw [decide_eq_true c2, k2t]
        rw [decide_eq_false c2]
        obtain ⟨k, rfl⟩ : ∃ k : Nat, at_ = (k : Int) := ⟨at_.toNat, by omega⟩
        have hks : k * s ≤ g.Flat.length := by
          rw [← hmul]; exact Nat.mul_le_mul_right s (by omega)
        unfold p_FnSubJoins_k2
        have e1 := sub_p (F := F) (a := 0) (b := k) (by omega) hk G.str' hl (by omega) hks
        have e2 := sub_p (F := F) (a := k) (b := q) (by omega) hk G.str' hl (by rw [hmul]; exact hks) (by rw [hmul]; exact Nat.le_refl _)
        rw [cond_f rfl, hdiv, show (0 : Int) = ((0 : Nat) : Int) from rfl, e1, Option.bind_some, e2, Option.bind_some]
        dsimp only
        rw [cond_t rfl, cond_t rfl, hmul]
        have hj : (g.Flat.drop (0 * s)).take (k * s - 0 * s) ++ (g.Flat.drop (k * s)).take (g.Flat.length - k * s) = g.Flat := by
          rw [Nat.zero_mul, List.drop_zero, Nat.sub_zero, List.take_of_length_le (l := g.Flat.drop (k * s)) (by rw [List.length_drop]; omega), List.take_append_drop]
        rw [need_pos (by rw [List.length_take, List.length_drop]; omega), need_pos (by rw [List.length_take, List.length_take, List.length_drop, List.length_drop]; omega), hj, sameF_p _ (by omega) (by omega), Option.bind_some]
      · rw [nT hk, kt]
end Go.Proofs.Ytlafodjpnolmhaa.Wk
