/- Appending; nil checks; calls of function values. -/
import Derived.Test.YtbgdonedjgkhiaaVmWrap
import Derived.Maps.AppendAt
set_option linter.unusedVariables false
set_option linter.unusedSimpArgs false
namespace Go.Vm

/- It does not lead to object p. -/
mutual
def SV.noO (p : Nat) : SV → Bool
  | .d _ => true
  | .any => true
  | .ptr o _ => o != p
  | .sl o _ _ _ _ => o != p
  | .own o => o != p
  | .pre o _ => o != p
  | .full _ _ => true
  | .ep _ _ => true
  | .ag l => SV.noOL p l
  | .tu l => SV.noOL p l
  | .ifc _ x => SV.noO p x
  | .fv _ a b => SV.noOL p a && SV.noOL p b
termination_by structural x => x
def SV.noOL (p : Nat) : List SV → Bool
  | [] => true
  | x :: r => SV.noO p x && SV.noOL p r
termination_by structural x => x
end
theorem SV.noOL_get {p : Nat} : ∀ {l : List SV}, SV.noOL p l = true → ∀ {i : Nat} {x : SV}, l[i]? = some x → SV.noO p x = true
  | [], _, i, x, hx => by simp at hx
  | y :: r, h, i, x, hx => by
    simp only [SV.noOL, Bool.and_eq_true] at h
    cases i with
    | zero => simp at hx; subst hx; exact h.1
    | succ i => exact SV.noOL_get h.2 (by simpa using hx)
def Ob.noO (p : Nat) : Ob → Bool
  | .fix _ cells => cells.all (SV.noO p)
  | .frame _ env => env.all fun q => q.2.noO p
  | _ => true
/-- The slots that do not lead to object p. -/
def dropO (p : Nat) : List Nat → List (Nat × SV) → List (Nat × SV)
  | _, [] => []
  | seen, (k, x) :: r => if seen.contains k then dropO p seen r else if x.noO p then (k, x) :: dropO p (k :: seen) r else dropO p (k :: seen) r
theorem dropO_get {p : Nat} : ∀ {e : List (Nat × SV)} {seen : List Nat} {t : Nat} {x : SV}, get (dropO p seen e) t = some x → t ∉ seen ∧ get e t = some x ∧ x.noO p = true
  | [], _, _, _, h => by cases h
  | (k, y) :: r, seen, t, x, h => by
    simp only [dropO] at h
    split at h
    · rename_i hk
      obtain ⟨h1, h2, h3⟩ := dropO_get h
      refine ⟨h1, ?_, h3⟩
      simp only [get]
      rw [if_neg (fun e => h1 (by subst e; simpa using hk))]
      exact h2
    · rename_i hk
      split at h
      · rename_i hy
        simp only [get] at h ⊢
        split at h
        · rename_i e; subst e; cases h
          exact ⟨by simpa using hk, by rw [if_pos rfl], hy⟩
        · rename_i e
          obtain ⟨h1, h2, h3⟩ := dropO_get h
          exact ⟨fun hm => h1 (by simp [hm]), by rw [if_neg e]; exact h2, h3⟩
      · obtain ⟨h1, h2, h3⟩ := dropO_get h
        refine ⟨fun hm => h1 (by simp [hm]), ?_, h3⟩
        simp only [get]
        rw [if_neg (fun e => h1 (by simp [e]))]
        exact h2

theorem RepS.noO {w w' : World} {ok ok' : Nat → Prop} {Ω : List Value} {p : Nat} {u : Value} (h : ∀ b, ok b → ok' b ∧ w'.heap[b]? = w.heap[b]?) {x : SV} {v : Value} (hx : x.noO p = true) (hr : RepS w ok Ω x v) : RepS w' ok' (Ω.set p u) x v := by
  have ht : ∀ {o : Nat} {v : Value}, (o != p) = true → Ω[o]? = some v → (Ω.set p u)[o]? = some v := fun ho e => by
    rw [List.getElem?_set_ne (by simpa using Ne.symm (by simpa using ho))]; exact e
  induction hr with
  | any v => exact .any v
  | d x v hd => exact .d x v (hd.mono h)
  | ptr o off b ho => exact .ptr o off b (ht hx ho)
  | ptrG o off b len cap ho => exact .ptrG o off b len cap (ht hx ho)
  | sl o sz off len cap b ho => exact .sl o sz off len cap b (ht hx ho)
  | own o v ho h1 => exact .own o v (ht hx ho) h1
  | pre o k n cap a ho hk => exact .pre o k n cap a (ht hx ho) hk
  | full sz cells a n hd => exact .full sz cells a n (hd.mono h)
  | ep b off i cells vals hb2 hcell hr => exact .ep b off i cells vals (h b hb2).1 (fun j hj => by rw [cell_heap (h b hb2).2]; exact hcell j hj) (fun j x hj => (hr j x hj).mono h)
  | ag cells vs hl _ ih => exact .ag cells vs hl fun i x y h1 h2 => ih i x y h1 h2 (SV.noOL_get hx h1)
  | tu cells vs hl _ ih => exact .tu cells vs hl fun i x y h1 h2 => ih i x y h1 h2 (SV.noOL_get hx h1)
  | ifc t x u _ ih => exact .ifc t x u (ih hx)
  | fv fn first caps fs cs hf hc _ _ ih1 ih2 =>
    have hb2 : SV.noOL p first = true ∧ SV.noOL p caps = true := by simpa only [SV.noO, Bool.and_eq_true] using hx
    exact .fv fn first caps fs cs hf hc (fun i x y h1 h2 => ih1 i x y h1 h2 (SV.noOL_get hb2.1 h1)) (fun i x y h1 h2 => ih2 i x y h1 h2 (SV.noOL_get hb2.2 h1))

/-- A slice of the call's own has grown. -/
theorem Mem.grow {C : Ctx} {obs : List Ob} {Ω : List Value} {w w' : World} (h : Mem C obs Ω w) {p sz n : Nat} {ty : TypeId} {cells cells' : List D} {v v' : Value} {xs : List Value} (ho : obs[p]? = some (.grow ty sz cells))
    (hΩ : Ω[p]? = some v) (hg : w.grownBy w' v.ownBlock) (how : w'.ownsRow 0 ty sz v' n xs) (hb : v'.ownBlock = v.ownBlock ∨ v'.ownBlock = some w.heap.size) (hl : xs.length = cells'.length)
    (hr : ∀ (i : Nat) x y, cells'[i]? = some x → xs[i]? = some y → RepD w (okB C obs Ω w) x y) (hno : ∀ i ob, i ≠ p → obs[i]? = some ob → ob.noO p = true) :
    Mem C (obs.set p (.grow ty sz cells')) (Ω.set p v') w' ∧ ∀ k, okB C obs Ω w k → okB C (obs.set p (.grow ty sz cells')) (Ω.set p v') w' k ∧ w'.heap[k]? = w.heap[k]? := by
  obtain ⟨n0, xs0, how0, _, _⟩ := h.obj p _ _ ho hΩ
  have bo : ∀ {x : World} {m : Nat} {z : Value} {l : List Value}, x.ownsRow 0 ty sz z m l → blk z = z.ownBlock := fun {x m z l} hz => by
    rcases hz.2 with ⟨rfl, _⟩ | ⟨g, cap, cur, rfl, _⟩ <;> rfl
  have b1 := bo how0
  have b2 := bo how
  have hlt : ∀ {i : Nat} {ob : Ob} {k : Value} {b : Nat}, obs[i]? = some ob → ob.live = true → Ω[i]? = some k → blk k = some b → b < w.heap.size := fun e1 l e2 hbk => (h.obj _ _ _ e1 e2).lt l hbk
  have gΩ : ∀ {i : Nat} {k : Value}, i ≠ p → (Ω.set p v')[i]? = some k → Ω[i]? = some k := fun hi e => by rwa [List.getElem?_set_ne (Ne.symm hi)] at e
  have pΩ : ∀ {k : Value}, (Ω.set p v')[p]? = some k → k = v' := fun {k} e => by
    rw [List.getElem?_set_self (List.getElem?_eq_some_iff.1 hΩ).1] at e; exact (Option.some.inj e).symm
  have hok : ∀ k, okB C obs Ω w k → okB C (obs.set p (.grow ty sz cells')) (Ω.set p v') w' k ∧ w'.heap[k]? = w.heap[k]? := fun k hk => by
    have hkv : blk v ≠ some k := hk.2.2 p _ _ ho rfl hΩ
    refine ⟨⟨hk.1, Nat.lt_of_lt_of_le hk.2.1 hg.size, fun i ob q e1 l e2 => ?_⟩, hg.block k hk.2.1 (fun e => hkv (by rw [b1, ← e]))⟩
    rcases get_set e1 with ⟨rfl, rfl, _⟩ | ⟨hi, e1⟩
    · rw [pΩ e2, b2]
      rcases hb with hb | hb
      · rw [hb, ← b1]; exact hkv
      · rw [hb]; intro e; cases e; exact absurd hk.2.1 (Nat.lt_irrefl _)
    · exact hk.2.2 i ob q e1 l (gΩ hi e2)
  have nb : ∀ {b : Nat}, blk v' = some b → blk v = some b ∨ b = w.heap.size := fun {b} hbk => by
    rw [b2] at hbk
    rcases hb with hb | hb
    · left; rw [b1, ← hb]; exact hbk
    · right; rw [hb] at hbk; cases hbk; rfl
  refine ⟨⟨by simp [h.len], fun i ob k e1 e2 => ?_, fun i j a c x y b hij e1 e2 l1 l2 e3 e4 hp => ?_, fun i ob q b e1 l1 e2 hp => ?_, ?_⟩, hok⟩
  · rcases get_set e1 with ⟨rfl, rfl, _⟩ | ⟨hi, e1⟩
    · rw [pΩ e2]
      exact ⟨n, xs, how, hl, fun i x y hx hy => (hr i x y hx hy).mono hok⟩
    · have e2' := gΩ hi e2
      have H := h.obj i ob k e1 e2'
      have hn := hno i ob hi e1
      cases ob with
      | dead => trivial
      | frame vs env => exact ⟨H.1, fun t x hx => let ⟨v, hv, hr⟩ := H.2 t x hx; ⟨v, hv, hr.noO hok (List.all_eq_true.1 (show env.all (fun q => q.2.noO p) = true from hn) (t, x) (get_mem hx))⟩⟩
      | grow ty2 sz2 cells2 =>
        obtain ⟨m, ys, hq, hql, hqr⟩ := H
        refine ⟨m, ys, hq.kept hg ?_, hql, fun i x y hx hy => (hqr i x y hx hy).mono hok⟩
        have bq : blk k = k.ownBlock := by rcases hq.2 with ⟨rfl, _⟩ | ⟨g, cap, cur, rfl, _⟩ <;> rfl
        cases hkb : k.ownBlock with
        | none => exact .inl rfl
        | some b =>
          right
          intro e
          exact h.sep i p _ _ k v b hi e1 ho rfl rfl e2' hΩ (by rw [bq, hkb]) (by rw [b1, ← e])
      | fix ty2 cells2 =>
        obtain ⟨b, vs, rfl, hw, hvl, hvr, h1⟩ := H
        refine ⟨b, vs, rfl, ?_, hvl, fun i x y hx hy => (hvr i x y hx hy).noO hok (List.all_eq_true.1 (show cells2.all (SV.noO p) = true from hn) x (List.mem_of_getElem? hx)), h1⟩
        rw [hg.block b (hlt e1 rfl e2' rfl) (fun e => h.sep i p _ _ _ v b hi e1 ho rfl rfl e2' hΩ rfl (by rw [b1, ← e]))]
        exact hw
  · rcases get_set e1 with ⟨f1, f2, _⟩ | ⟨hi, f1⟩ <;> rcases get_set e2 with ⟨g1, g2, _⟩ | ⟨hj, g1⟩
    · exact (hij (f1.trans g1.symm)).elim
    · subst f1
      rw [pΩ e3] at hp
      rcases nb hp with hb' | hb'
      · exact h.sep i j _ _ v y b hij ho g1 rfl l2 hΩ (gΩ hj e4) hb'
      · intro e; have := hlt g1 l2 (gΩ hj e4) e; omega
    · subst g1
      rw [pΩ e4]
      intro e
      rcases nb e with hb' | hb'
      · exact h.sep i j _ _ x v b hij f1 ho l1 rfl (gΩ hi e3) hΩ hp hb'
      · have := hlt f1 l1 (gΩ hi e3) hp; omega
    · exact h.sep i j a c x y b hij f1 g1 l1 l2 (gΩ hi e3) (gΩ hj e4) hp
  · rcases get_set e1 with ⟨rfl, rfl, _⟩ | ⟨hi, e1⟩
    · rw [pΩ e2] at hp
      rcases nb hp with hb' | hb'
      · exact h.new i _ v b ho rfl hΩ hb'
      · subst hb'; exact .inl h.fr.size
    · exact h.new i ob q b e1 l1 (gΩ hi e2) hp
  · refine ⟨hg.os.trans h.fr.os, hg.tape.trans h.fr.tape, hg.output.trans h.fr.output, Nat.le_trans h.fr.size hg.size, fun b e1 e2 => ?_, h.fr.glob⟩
    rw [hg.block b (Nat.lt_of_lt_of_le e1 h.fr.size) (fun e => ?_)]
    · exact h.fr.block b e1 e2
    · rcases h.new p _ v b ho rfl hΩ (by rw [b1, ← e]) with hn | hn
      · omega
      · exact e2 hn
end Go.Vm
namespace Go.Vm
/-- Nothing is appended. -/
theorem run_append_none {P : Program} {w : World} (t ty e : TypeId) {size : Nat} (ht : elemT P t = some (e, size)) {v : Value} {n : Nat} {xs : List Value} (hown : w.ownsRow 0 e size v n xs) (c : Nat) :
    (Builtin.append_ #[t, t] ty #[v, .slice none 0 c]).run P w = .ok v w := by
  obtain ⟨hu, hs⟩ := elemT_spec ht
  rcases hown.2 with ⟨rfl, h0⟩ | ⟨g, cap, cur, rfl, _, hg, hnc, _⟩
  · simp [Builtin.append_, run_underlying hu, run_sizeOf hs, Builtin.lenOf, Builtin.firstCells]
  · have : (storeCells ((⟨g, 0, none⟩ : Addr).add (n * size)) []).run P w = .ok () w := by simp [storeCells]
    simp [Builtin.append_, run_underlying hu, run_sizeOf hs, Builtin.lenOf, Builtin.firstCells, hnc, this]

section
variable {C : Ctx} {Q : Exit → St → Prop} {ops : Array Oper} {rest : List Oper} {o : Oper} {e : List (Nat × SV)} {obs : List Ob} {d : Nat}

/-- What can be appended: data. -/
theorem run_append_data {P : Program} {w : World} {ok : Nat → Prop} (t ty el size bytes : Nat) {z : Value} (ht : elemT P t = some (el, size)) (hi : (P.info? el).map (fun i => (i.zero, i.size, i.bytes)) = some (some z, size, bytes)) (hzs : z.cells.size = size) (hsz : 0 < size)
    {v u : Value} {n m : Nat} {xs : List Value} {news : List D} (hown : w.ownsRow 0 el size v n xs) (hu : RepD w ok (.ds size news) u) (hl : news.length = m * size) (h1 : ∀ (i : Nat) x y, news[i]? = some x → RepD w ok x y → y.oneCell' = true)
    (h63 : n + m ≤ maxLen) (hbytes : (n + m) * bytes ≤ 140737488355328) :
    ∃ v' w' us, (Builtin.append_ #[t, t] ty #[v, u]).run P w = .ok v' w' ∧ w'.ownsRow 0 el size v' (n + m) (xs ++ us) ∧ us.length = news.length ∧ (∀ (i : Nat) x y, news[i]? = some x → us[i]? = some y → RepD w ok x y) ∧
      w.grownBy w' v.ownBlock ∧ (v'.ownBlock = v.ownBlock ∨ v'.ownBlock = some w.heap.size) := by
  obtain ⟨hun, hs⟩ := elemT_spec ht
  obtain ⟨i, hii, hie⟩ : ∃ i, P.info? el = some i ∧ (i.zero, i.size, i.bytes) = (some z, size, bytes) := by
    cases hq : P.info? el with
    | none => rw [hq] at hi; cases hi
    | some i => rw [hq] at hi; exact ⟨i, rfl, Option.some.inj hi⟩
  simp only [Prod.mk.injEq] at hie
  obtain ⟨e1, e2, e3⟩ := hie
  cases hu with
  | nil _ a c =>
    have hm : m = 0 := by
      rcases Nat.eq_zero_or_pos m with h | h
      · exact h
      · have := Nat.mul_pos h hsz; simp at hl; omega
    subst hm
    cases a with
    | none => exact ⟨v, w, [], run_append_none t ty el ht hown c, by simpa using hown, rfl, fun i x y hx => by simp at hx, ⟨rfl, rfl, rfl, Nat.le_refl _, fun _ _ _ => rfl⟩, .inl rfl⟩
    | some a =>
      obtain ⟨v', w', h2, h3, h4, h5, h6⟩ := run_append_own_at w 0 t ty el i z size bytes hun hii e1 e2 e3 hzs hsz v n xs hown a 0 c [] (by simp) (fun j u hj => by simp at hj) (fun u hu => by simp at hu) h63 hbytes (Nat.zero_le _)
      exact ⟨v', w', [], h2, h3, rfl, fun i x y hx => by simp at hx, h4, h6⟩
  | ds _ b off len cap _ vals hl2 hc hb hcell hrr =>
    have hm : len = m := Nat.eq_of_mul_eq_mul_right hsz (by rw [← hl2, hl])
    subst hm
    have hus : ∀ (j : Nat) (u : Value), ((List.range news.length).map vals)[j]? = some u → j < news.length ∧ u = vals j := fun j u hj => by
      rw [List.getElem?_map, Option.map_eq_some_iff] at hj
      obtain ⟨k, hk, rfl⟩ := hj
      have hlt := (List.getElem?_eq_some_iff.1 hk).1
      simp at hlt
      rw [List.getElem?_range hlt] at hk
      cases hk
      exact ⟨hlt, rfl⟩
    obtain ⟨v', w', h2, h3, h4, h5, h6⟩ := run_append_own_at w 0 t ty el i z size bytes hun hii e1 e2 e3 hzs hsz v n xs hown ⟨b, off, none⟩ len cap ((List.range news.length).map vals) (by simp [hl]) (fun j u hj => by
        obtain ⟨hlt, rfl⟩ := hus j u hj
        rw [Addr.add_of]; exact hcell j hlt) (fun u hu => by
        obtain ⟨j, hj⟩ := List.getElem?_of_mem hu
        obtain ⟨hlt, rfl⟩ := hus j u hj
        have hx : news[j]? = some news[j] := List.getElem?_eq_getElem hlt
        exact h1 j _ _ hx (hrr j _ hx)) h63 hbytes (Nat.zero_le _)
    refine ⟨v', w', _, h2, h3, by simp, fun j x y hx hy => ?_, h4, h6⟩
    obtain ⟨hlt, rfl⟩ := hus j y hy
    exact hrr j x hx

/-- Onto a slice whose capacity is its length: a new row. -/
theorem run_append_full {P : Program} {w : World} {ok : Nat → Prop} (t ty el size bytes : Nat) {z : Value} (ht : elemT P t = some (el, size)) (hi : (P.info? el).map (fun i => (i.zero, i.size, i.bytes)) = some (some z, size, bytes)) (hzs : z.cells.size = size) (hsz : 0 < size)
    {u : Value} {a0 : Option Addr} {n m : Nat} {olds news : List D} (ho : RepD w ok (.ds size olds) (.slice a0 n n)) (hol : olds.length = n * size) (hu : RepD w ok (.ds size news) u) (hl : news.length = m * size) (hm : 0 < m)
    (h63 : n + m ≤ maxLen) (hbytes : (n + m) * bytes ≤ 140737488355328) :
    ∃ v' w' xs, (Builtin.append_ #[t, t] ty #[.slice a0 n n, u]).run P w = .ok v' w' ∧ w'.ownsRow 0 el size v' (n + m) xs ∧ xs.length = (olds ++ news).length ∧ (∀ (i : Nat) x y, (olds ++ news)[i]? = some x → xs[i]? = some y → RepD w ok x y) ∧
      w.grownBy w' none ∧ v'.ownBlock = some w.heap.size := by
  obtain ⟨hun, hs⟩ := elemT_spec ht
  obtain ⟨i, hii, hie⟩ : ∃ i, P.info? el = some i ∧ (i.zero, i.size, i.bytes) = (some z, size, bytes) := by
    cases hq : P.info? el with
    | none => rw [hq] at hi; cases hi
    | some i => rw [hq] at hi; exact ⟨i, rfl, Option.some.inj hi⟩
  simp only [Prod.mk.injEq] at hie
  obtain ⟨e1, e2, e3⟩ := hie
  subst e2
  subst e3
  have h63' : ((n + m : Nat) : Int) ≤ 9223372036854775807 := by simp only [maxLen] at h63; omega
  have look : ∀ (f : Nat → Value) (k j : Nat) (u : Value), ((List.range k).map f)[j]? = some u → j < k ∧ u = f j := fun f k j u hj => by
    rw [List.getElem?_map, Option.map_eq_some_iff] at hj
    obtain ⟨q, hq, rfl⟩ := hj
    have hlt := (List.getElem?_eq_some_iff.1 hq).1
    simp at hlt
    rw [List.getElem?_range hlt] at hq
    cases hq
    exact ⟨hlt, rfl⟩
  cases hu with
  | nil _ a c =>
    have := Nat.mul_pos hm hsz
    simp at hl; omega
  | ds _ b off len cap _ vals hl2 hc hb hcell hrr =>
    have hmm : len = m := Nat.eq_of_mul_eq_mul_right hsz (by rw [← hl2, hl])
    subst hmm
    have hnews : ∀ j u, ((List.range news.length).map vals)[j]? = some u → w.cell? ((⟨b, off, none⟩ : Addr).add j) = some u := fun j u hj => by
      obtain ⟨hlt, rfl⟩ := look _ _ _ _ hj
      rw [Addr.add_of]; exact hcell j hlt
    have fin : ∀ (xs : List Value) (old : Nat), xs.length = olds.length → old < n + len → (∀ (j : Nat) x y, olds[j]? = some x → xs[j]? = some y → RepD w ok x y) →
        (Builtin.append_ #[t, t] ty #[.slice a0 n n, .slice (some ⟨b, off, none⟩) len cap]).run P w = .ok (.slice (some ⟨w.heap.size, 0, none⟩) (n + len) (grownCap w (n + len) old el))
          (w.drew.alloc (.cells (xs.toArray ++ ((List.range news.length).map vals).toArray ++ Builtin.zeroCells z.cells (grownCap w (n + len) old el - (n + len))) el)) →
        ∃ v' w' xs, (Builtin.append_ #[t, t] ty #[.slice a0 n n, .slice (some ⟨b, off, none⟩) len cap]).run P w = .ok v' w' ∧ w'.ownsRow 0 el i.size v' (n + len) xs ∧ xs.length = (olds ++ news).length ∧ (∀ (i : Nat) x y, (olds ++ news)[i]? = some x → xs[i]? = some y → RepD w ok x y) ∧
          w.grownBy w' none ∧ v'.ownBlock = some w.heap.size := fun xs old hxl hold hxr hrun => by
      have hge := grownCap_ge w (n + len) old el
      have hcm : grownCap w (n + len) old el ≤ maxLen := grownCap_le_maxLen w (n + len) old el h63
      have hlen : (xs ++ (List.range news.length).map vals).length = (n + len) * i.size := by simp [hxl, hol, hl, Nat.add_mul]
      refine ⟨_, _, xs ++ (List.range news.length).map vals, hrun, ⟨hlen, .inr ⟨w.heap.size, _, _, rfl, Nat.zero_le _, heap_alloc_new w.drew _, hge, hcm, ?_, ?_⟩⟩, by simp [hxl], fun j x y hx hy => ?_, ⟨rfl, rfl, rfl, by simp, fun k hk _ => heap_alloc_old w.drew _ hk⟩, rfl⟩
      · have hh := hlen
        simp only [List.length_append] at hh
        simp only [Array.size_append, List.size_toArray, size_zeroCells, hzs]
        rw [hh, ← Nat.add_mul]
        congr 1
        omega
      · simp only [Array.toList_append, List.append_assoc]
        rw [← List.append_assoc, ← hlen]
        exact List.take_left
      · rw [List.getElem?_append] at hx hy
        rw [hxl] at hy
        split at hx
        · rename_i h; rw [if_pos h] at hy; exact hxr j x y hx hy
        · rename_i h
          rw [if_neg h] at hy
          obtain ⟨_, rfl⟩ := look _ _ _ _ hy
          exact hrr _ x hx
    cases ho with
    | nil _ a c =>
      cases a0 with
      | none => exact fin [] 0 rfl (by omega) (fun j x y hx => by simp at hx) (by
          have h := run_append_nil (P := P) w t ty el i z hun hii e1 ⟨b, off, none⟩ len cap ((List.range news.length).map vals) (by simp [hl]) hnews (by omega) (by omega) (by have hb := hbytes; simp only [Nat.zero_add] at hb; omega)
          simpa using h)
      | some q => exact fin [] 0 rfl (by omega) (fun j x y hx => by simp at hx) (run_append_grow (P := P) w t ty el i z hun hii e1 q 0 0 [] (by simp) (fun j u hj => by simp at hj) ⟨b, off, none⟩ len cap ((List.range news.length).map vals) (by simp [hl]) hnews (by omega) h63' (growslice_fits (by omega) hbytes))
    | ds _ b2 off2 len2 cap2 _ vals2 hl3 hc3 hb3 hcell3 hrr3 =>
      exact fin ((List.range olds.length).map vals2) n (by simp) (by omega) (fun j x y hx hy => by
          obtain ⟨_, rfl⟩ := look _ _ _ _ hy
          exact hrr3 j x hx) (run_append_grow (P := P) w t ty el i z hun hii e1 ⟨b2, off2, none⟩ n n ((List.range olds.length).map vals2) (by simp [hol]) (fun j u hj => by
            obtain ⟨hlt, rfl⟩ := look _ _ _ _ hj
            rw [Addr.add_of]; exact hcell3 j hlt) ⟨b, off, none⟩ len cap ((List.range news.length).map vals) (by simp [hl]) hnews (by omega) h63' (growslice_fits (by omega) hbytes))
theorem run_append_types {P : Program} {w : World} {t t2 ty el el2 : Nat} (h1 : P.underlying t = some (.slice el)) (h2 : P.underlying t2 = some (.slice el2)) (v u : Value) :
    (Builtin.append_ #[t, t2] ty #[v, u]).run P w = (Builtin.append_ #[t, t] ty #[v, u]).run P w := by
  unfold Builtin.append_
  simp only [List.getElem?_toArray, List.getElem?_cons_zero, List.getElem?_cons_succ, Sem.run_bind, run_underlying h1, Result.andThen_ok]
  cases v <;> simp only [Sem.run_bind, run_underlying h1, run_underlying h2, Result.andThen_ok]
/-- Onto a slice of the call's own. -/
theorem AOp.appendOwn {t el size bytes p n m : Nat} {x y : Operand} {z : Value} {cells news : List D} (ho : o.op = .call { callee := .builtin .append, args := #[x, y], argTypes := #[t, t] }) (hd : o.dst = some d) (hn : d < C.n)
    (hx : opS ⟨e, obs⟩ x = some (.own p)) (hy : opS ⟨e, obs⟩ y = some (.d (.ds size news))) (ht : elemT C.P t = some (el, size)) (hi : (C.P.info? el).map (fun i => (i.zero, i.size, i.bytes)) = some (some z, size, bytes)) (hzs : z.cells.size = size) (hsz : 0 < size)
    (hp : obs[p]? = some (.grow el size cells)) (hc : cells.length = n * size) (hl : news.length = m * size) (hone : ∀ x, x ∈ news → x.one = true) (h63 : n + m ≤ maxLen) (hb : (n + m) * bytes ≤ 140737488355328)
    (hno : (obs.set p .dead).all (Ob.noO p) = true) {e' : List (Nat × SV)} (he : dropO p [] e = e')
    (h : AO C ops rest ⟨(d, .own p) :: e', obs.set p (.grow el size (cells ++ news))⟩ Q) : AOp C ops rest o ⟨e, obs⟩ Q := by
  subst he
  refine AOp.step hd hn (fun Ω a w hr => ?_) h
  obtain ⟨k, xs, hΩ, how, hxl, hrr⟩ := hr.growV hp (hr.eval hx)
  have hk : k = n := Nat.eq_of_mul_eq_mul_right hsz (by rw [← how.1, hxl, hc])
  subst hk
  have hyv := hr.eval hy
  generalize hev : a.eval y = u at hyv
  cases hyv with
  | d _ _ hyd =>
    obtain ⟨v', w', us, h1, h2, h3, h4, h5, h6⟩ := run_append_data t o.type el size bytes ht hi hzs hsz how hyd hl (fun i x y hx hr => hr.one (hone x (List.mem_of_getElem? hx))) h63 hb
    obtain ⟨hm, hok⟩ := hr.mem.grow (cells' := cells ++ news) hp hΩ h5 h2 h6 (by simp [hxl, h3]) (fun i x y hx hy => by
      rw [List.getElem?_append] at hx hy
      rw [hxl] at hy
      split at hx
      · rename_i hi; rw [if_pos hi] at hy; exact hrr i x y hx hy
      · rename_i hi; rw [if_neg hi] at hy; exact h4 _ x y hx hy) (fun i ob hi hob => List.all_eq_true.1 hno ob (List.mem_of_getElem? (by rw [List.getElem?_set_ne (Ne.symm hi)]; exact hob)))
    have one1 : v'.oneCell' = true := by rcases h2.2 with ⟨rfl, _⟩ | ⟨g, cap, cur, rfl, _⟩ <;> rfl
    refine ⟨v', w', _, ?_, ⟨hr.defers, hr.size, fun q sv hq => ?_, hm⟩, .own _ _ ?_ one1⟩
    · simp [execOp, ho, hev, resolve, invoke, builtin, h1]
    · obtain ⟨_, hg, hf⟩ := dropO_get hq
      obtain ⟨val, hval, hrep⟩ := hr.env q sv hg
      exact ⟨val, hval, hrep.noO hok hf⟩
    · rw [List.getElem?_set_self (List.getElem?_eq_some_iff.1 hΩ).1]

/-- The same, of another type of slices. -/
theorem AOp.appendOwnT {t t2 el el2 size bytes p n m : Nat} {x y : Operand} {z : Value} {cells news : List D} (ho : o.op = .call { callee := .builtin .append, args := #[x, y], argTypes := #[t, t2] }) (ht2 : C.P.underlying t2 = some (.slice el2)) (hd : o.dst = some d) (hn : d < C.n)
    (hx : opS ⟨e, obs⟩ x = some (.own p)) (hy : opS ⟨e, obs⟩ y = some (.d (.ds size news))) (ht : elemT C.P t = some (el, size)) (hi : (C.P.info? el).map (fun i => (i.zero, i.size, i.bytes)) = some (some z, size, bytes)) (hzs : z.cells.size = size) (hsz : 0 < size)
    (hp : obs[p]? = some (.grow el size cells)) (hc : cells.length = n * size) (hl : news.length = m * size) (hone : ∀ x, x ∈ news → x.one = true) (h63 : n + m ≤ maxLen) (hb : (n + m) * bytes ≤ 140737488355328)
    (hno : (obs.set p .dead).all (Ob.noO p) = true) {e' : List (Nat × SV)} (he : dropO p [] e = e')
    (h : AO C ops rest ⟨(d, .own p) :: e', obs.set p (.grow el size (cells ++ news))⟩ Q) : AOp C ops rest o ⟨e, obs⟩ Q := by
  subst he
  refine AOp.step hd hn (fun Ω a w hr => ?_) h
  obtain ⟨k, xs, hΩ, how, hxl, hrr⟩ := hr.growV hp (hr.eval hx)
  have hk : k = n := Nat.eq_of_mul_eq_mul_right hsz (by rw [← how.1, hxl, hc])
  subst hk
  have hyv := hr.eval hy
  generalize hev : a.eval y = u at hyv
  cases hyv with
  | d _ _ hyd =>
    obtain ⟨v', w', us, h1, h2, h3, h4, h5, h6⟩ := run_append_data t o.type el size bytes ht hi hzs hsz how hyd hl (fun i x y hx hr => hr.one (hone x (List.mem_of_getElem? hx))) h63 hb
    rw [← run_append_types (elemT_spec ht).1 ht2 (a.eval x) u] at h1
    obtain ⟨hm, hok⟩ := hr.mem.grow (cells' := cells ++ news) hp hΩ h5 h2 h6 (by simp [hxl, h3]) (fun i x y hx hy => by
      rw [List.getElem?_append] at hx hy
      rw [hxl] at hy
      split at hx
      · rename_i hi; rw [if_pos hi] at hy; exact hrr i x y hx hy
      · rename_i hi; rw [if_neg hi] at hy; exact h4 _ x y hx hy) (fun i ob hi hob => List.all_eq_true.1 hno ob (List.mem_of_getElem? (by rw [List.getElem?_set_ne (Ne.symm hi)]; exact hob)))
    have one1 : v'.oneCell' = true := by rcases h2.2 with ⟨rfl, _⟩ | ⟨g, cap, cur, rfl, _⟩ <;> rfl
    refine ⟨v', w', _, ?_, ⟨hr.defers, hr.size, fun q sv hq => ?_, hm⟩, .own _ _ ?_ one1⟩
    · simp [execOp, ho, hev, resolve, invoke, builtin, h1]
    · obtain ⟨_, hg, hf⟩ := dropO_get hq
      obtain ⟨val, hval, hrep⟩ := hr.env q sv hg
      exact ⟨val, hval, hrep.noO hok hf⟩
    · rw [List.getElem?_set_self (List.getElem?_eq_some_iff.1 hΩ).1]

/-- Onto the first elements of a slice of the call's own: the others are written over, or left behind. -/
theorem AOp.appendOwnP {t el size bytes p n m k : Nat} {x y : Operand} {z : Value} {cells news cells' : List D} (ho : o.op = .call { callee := .builtin .append, args := #[x, y], argTypes := #[t, t] }) (hd : o.dst = some d) (hn : d < C.n)
    (hx : opS ⟨e, obs⟩ x = some (.pre p k)) (hy : opS ⟨e, obs⟩ y = some (.d (.ds size news))) (ht : elemT C.P t = some (el, size)) (hi : (C.P.info? el).map (fun i => (i.zero, i.size, i.bytes)) = some (some z, size, bytes)) (hzs : z.cells.size = size) (hsz : 0 < size)
    (hp : obs[p]? = some (.grow el size cells)) (hc : cells.length = n * size) (hkn : k ≤ n) (hl : news.length = m * size) (hone : ∀ x, x ∈ news → x.one = true) (h63 : k + m ≤ 4294967296) (hb : bytes ≤ 32768)
    (hno : (obs.set p .dead).all (Ob.noO p) = true) {e' : List (Nat × SV)} (he : dropO p [] e = e') (hcat : cells.take (k * size) ++ news = cells')
    (h : AO C ops rest ⟨(d, .own p) :: e', obs.set p (.grow el size cells')⟩ Q) : AOp C ops rest o ⟨e, obs⟩ Q := by
  subst he hcat
  refine AOp.step hd hn (fun Ω a w hr => ?_) h
  have hxv := hr.eval hx
  generalize hev0 : a.eval x = v0 at hxv
  cases hxv with
  | pre _ _ n0 cap ad hΩ hk0 =>
  obtain ⟨n1, xs, how, hxl, hrr⟩ := hr.mem.obj p _ _ hp hΩ
  have hn1 : n1 = n := Nat.eq_of_mul_eq_mul_right hsz (by rw [← how.1, hxl, hc])
  subst hn1
  have hle : k * size ≤ n1 * size := Nat.mul_le_mul_right _ hkn
  have hpre : w.ownsRow 0 el size (.slice ad k cap) k (xs.take (k * size)) := by
    refine ⟨by rw [List.length_take, how.1]; exact Nat.min_eq_left hle, ?_⟩
    rcases how.2 with ⟨h1, h2⟩ | ⟨g, cap', cur, h1, h2, h3, h4, h5, h6, h7⟩
    · cases h1
      subst h2
      have : k = 0 := by omega
      subst this
      exact .inl ⟨rfl, rfl⟩
    · cases h1
      exact .inr ⟨g, _, cur, rfl, h2, h3, by omega, h5, h6, by rw [← h7, List.take_take, Nat.min_eq_left hle]⟩
  have hyv := hr.eval hy
  generalize hev : a.eval y = u at hyv
  cases hyv with
  | d _ _ hyd =>
    obtain ⟨v', w', us, h1, h2, h3, h4, h5, h6⟩ := run_append_data t o.type el size bytes ht hi hzs hsz hpre hyd hl (fun i x y hx hr => hr.one (hone x (List.mem_of_getElem? hx))) (Nat.le_trans h63 (by decide)) (Nat.le_trans (Nat.mul_le_mul h63 hb) (by decide))
    have hob : (Value.slice ad k cap).ownBlock = (Value.slice ad n0 cap).ownBlock := by cases ad <;> rfl
    have hlt : (xs.take (k * size)).length = (cells.take (k * size)).length := by rw [List.length_take, List.length_take, hxl]
    obtain ⟨hm, hok⟩ := hr.mem.grow (cells' := cells.take (k * size) ++ news) hp hΩ (hob ▸ h5) h2 (hob ▸ h6) (by rw [List.length_append, List.length_append, hlt, h3]) (fun i x y hx hy => by
      rw [List.getElem?_append] at hx hy
      rw [hlt] at hy
      split at hx
      · rename_i hi
        rw [if_pos hi] at hy
        rw [List.getElem?_take] at hx hy
        split at hx
        · rename_i hi2; rw [if_pos hi2] at hy; exact hrr i x y hx hy
        · cases hx
      · rename_i hi; rw [if_neg hi] at hy; exact h4 _ x y hx hy) (fun i ob hi hob => List.all_eq_true.1 hno ob (List.mem_of_getElem? (by rw [List.getElem?_set_ne (Ne.symm hi)]; exact hob)))
    have one1 : v'.oneCell' = true := by rcases h2.2 with ⟨rfl, _⟩ | ⟨g, cap, cur, rfl, _⟩ <;> rfl
    refine ⟨v', w', _, ?_, ⟨hr.defers, hr.size, fun q sv hq => ?_, hm⟩, .own _ _ ?_ one1⟩
    · simp [execOp, ho, hev, hev0, resolve, invoke, builtin, h1]
    · obtain ⟨_, hg, hf⟩ := dropO_get hq
      obtain ⟨val, hval, hrep⟩ := hr.env q sv hg
      exact ⟨val, hval, hrep.noO hok hf⟩
    · rw [List.getElem?_set_self (List.getElem?_eq_some_iff.1 hΩ).1]

/-- Onto nothing: a copy. -/
theorem AOp.appendNil {t el size bytes m : Nat} {x y : Operand} {z : Value} {news : List D} (ho : o.op = .call { callee := .builtin .append, args := #[x, y], argTypes := #[t, t] }) (hd : o.dst = some d) (hn : d < C.n)
    (hx : opS ⟨e, obs⟩ x = some (.d (.v (.slice none 0 0)))) (hy : opS ⟨e, obs⟩ y = some (.d (.ds size news))) (ht : elemT C.P t = some (el, size)) (hi : (C.P.info? el).map (fun i => (i.zero, i.size, i.bytes)) = some (some z, size, bytes)) (hzs : z.cells.size = size) (hsz : 0 < size)
    (hl : news.length = m * size) (hone : ∀ x, x ∈ news → x.one = true) (h63 : m ≤ maxLen) (hb : m * bytes ≤ 140737488355328)
    (h : AO C ops rest ⟨(d, .d (.ds size news)) :: e, obs⟩ Q) : AOp C ops rest o ⟨e, obs⟩ Q := by
  refine AOp.step hd hn (fun Ω a w hr => ?_) h
  have hyv := hr.eval hy
  generalize hev : a.eval y = u at hyv
  cases hyv with
  | d _ _ hyd =>
    obtain ⟨v', w', us, h1, h2, h3, h4, h5, h6⟩ := run_append_data (n := 0) (xs := []) t o.type el size bytes ht hi hzs hsz (World.ownsRow_nil w 0 el size) hyd hl (fun i x y hx hr => hr.one (hone x (List.mem_of_getElem? hx))) (by omega) (by simpa using hb)
    have hbel : RowKit.Below w.heap.size w w' := ⟨h5.os, h5.tape, h5.output, h5.size, fun k hk => h5.block k hk (by simp [Value.ownBlock])⟩
    obtain ⟨hm, hok⟩ := hr.mem.below hbel
    refine ⟨v', w', Ω, ?_, hr.below hbel, .d _ _ ?_⟩
    · simp [execOp, ho, hr.evalV hx, hev, resolve, invoke, builtin, h1]
    · rw [Nat.zero_add, List.nil_append] at h2
      rcases h2.2 with ⟨rfl, hm0⟩ | ⟨g, cap, cur, rfl, _, hg, hnc, _, hcs, hct⟩
      · subst hm0
        have : news = [] := List.eq_nil_of_length_eq_zero (by simpa using hl)
        subst this
        exact .nil _ _ _
      · have hgs : g = w.heap.size := by
          rcases h6 with h6 | h6 <;> simp [Value.ownBlock] at h6
          exact h6
        have hus : ∀ (i : Nat), i < news.length → us[i]? = some (us.getD i undef) := fun i hi => by
          rw [List.getD_eq_getElem?_getD, List.getElem?_eq_getElem (by omega)]; rfl
        have hcell : ∀ (i : Nat), i < news.length → w'.cell? ⟨g, 0 + i, none⟩ = some (us.getD i undef) := fun i hi => by
          have h7 : (cur.toList.take (m * size))[i]? = some (us.getD i undef) := by rw [hct]; exact hus i hi
          rw [List.getElem?_take, if_pos (by omega)] at h7
          rw [Nat.zero_add, cell_of_row w' g i cur el (0, 0) hg]
          simpa using h7
        refine .ds _ _ _ _ _ _ _ hl hnc ?_ hcell (fun i x hx => ?_)
        · refine ⟨.inr (by rw [hgs]; exact hr.mem.fr.size), (Array.getElem?_eq_some_iff.1 hg).1, fun o' ob k e1 l e2 hbk => ?_⟩
          have := (hr.mem.obj o' ob k e1 e2).lt l hbk
          omega
        · exact (h4 i x _ hx (hus i (List.getElem?_eq_some_iff.1 hx).1)).mono hok
end
end Go.Vm
namespace Go.Vm
section
variable {C : Ctx} {Q : Exit → St → Prop} {ops : Array Oper} {rest : List Oper} {o : Oper} {e : List (Nat × SV)} {obs : List Ob} {d : Nat}
/-- A pointer that is not nil. -/
def SV.sure : SV → Bool
  | .ptr _ _ => true
  | .ep _ _ => true
  | .d (.pt _) => true
  | _ => false
theorem RepS.sure {w : World} {ok : Nat → Prop} {Ω : List Value} {x : SV} {v : Value} (h : RepS w ok Ω x v) (hx : x.sure = true) : ∃ a, v = .pointer (some a) := by
  cases h with
  | ptr o off b ho => exact ⟨_, rfl⟩
  | ptrG o off b len cap ho => exact ⟨_, rfl⟩
  | ep => exact ⟨_, rfl⟩
  | d x v hd => cases hd with
    | pt => exact ⟨_, rfl⟩
    | _ => cases hx
  | _ => cases hx
theorem AOp.nilCheck {x : Operand} {sv : SV} (ho : o.op = .nilCheck x) (hd : o.dst = some d) (hn : d < C.n) (hx : opS ⟨e, obs⟩ x = some sv) (hs : sv.sure = true) (h : AO C ops rest ⟨(d, sv) :: e, obs⟩ Q) : AOp C ops rest o ⟨e, obs⟩ Q :=
  AOp.value hd hn (fun _ a w hr => by
    obtain ⟨ad, hv⟩ := (hr.eval hx).sure hs
    refine ⟨.pointer (some ad), ?_, by rw [← hv]; exact hr.eval hx⟩
    simp [execOp, ho, hv]) h

theorem run_callF {P : Program} {f : FuncId} {x : Operand} {xs : Array Operand} {ts : Array TypeId} {a : Act} (he : enters P f = true) (ho : o.op = .call { callee := .value x, args := xs, argTypes := ts }) (hx : a.eval x = .func (.func f) #[] #[]) (w : World) :
    (execOp a.eval o).run P w = .ok (.enter f (xs.map a.eval)) w := by
  simp only [execOp, ho, resolve, hx, Deferred.ofValue, Sem.run_bind, Sem.run_pure, Result.andThen_ok, invoke, Array.empty_append, Array.append_empty, run_enters he]
/-- A call of a function that a slot holds. -/
theorem AOp.callF {f : FuncId} {x : Operand} {xs : List Operand} {ts : Array TypeId} {ys : List D} {R : D → Prop} (ho : o.op = .call { callee := .value x, args := xs.toArray, argTypes := ts }) (hd : o.dst = some d) (hn : d < C.n) (hm : C.may = [])
    (hfx : opS ⟨e, obs⟩ x = some (.d (.v (.func (.func f) #[] #[])))) (hx : mapO (argD ⟨e, obs⟩) xs = some ys) (hF : FnD C.P f ys R) (h : ∀ r, R r → AO C ops rest ⟨(d, .d r) :: e, obs⟩ Q) : AOp C ops rest o ⟨e, obs⟩ Q := fun Ω a w hr => by
  obtain ⟨hl, hi⟩ := mapO_get hx
  unfold Oper.wp
  rw [run_callF hF.1 ho (hr.evalV hfx), Oper.upon_enter, List.map_toArray]
  refine (hF.2 w (okB C obs Ω w) (xs.map a.eval) (hr.mem.fr.holds hm) (fun b hb => hb.2.1) (by simp [hl]) fun i y v hy hv => ?_).mono fun ed w' ⟨v, r, he, hR, hb, hrep⟩ => ?_
  · simp only [List.getElem?_map, Option.map_eq_some_iff] at hv
    obtain ⟨x, hxi, rfl⟩ := hv
    have := hi i x y hxi hy
    unfold argD at this
    split at this
    · rename_i z hz
      exact dataS_rep 9 this (hr.eval hz)
    · cases this
  · subst he
    rw [hd]
    refine h r hR Ω _ w' ((hr.below hb).put hn (.d _ _ (hrep.mono fun b hk => ⟨?_, rfl⟩)))
    rcases hk.1 with hk1 | hk1
    · exact ((hr.mem.below hb).2 b hk1).1
    · refine ⟨.inr (Nat.le_trans hr.mem.fr.size hk1), hk.2, fun o' ob k e1 l e2 hbk => ?_⟩
      have := (hr.mem.obj o' ob k e1 e2).lt l hbk
      omega

/-- A slot that holds no slice begins one of the call's own. -/
theorem Rel.adopt {Ω : List Value} {a : Act} {w : World} {t : Nat} (hr : Rel C ⟨e, obs⟩ Ω a w) (hx : get e t = some (.d (.v (.slice none 0 0)))) (el sz : Nat) :
    Rel C ⟨(t, .own obs.length) :: e, obs ++ [.grow el sz []]⟩ (Ω ++ [.slice none 0 0]) a w := by
  have hlen : obs.length = Ω.length := hr.mem.len
  have hok : ∀ b, okB C obs Ω w b → okB C (obs ++ [.grow el sz []]) (Ω ++ [.slice none 0 0]) w b := fun b hb => ⟨hb.1, hb.2.1, fun o ob k e1 l e2 => by
    rw [List.getElem?_append] at e1 e2
    rw [← hlen] at e2
    split at e1
    · rename_i hi; rw [if_pos hi] at e2; exact hb.2.2 o ob k e1 l e2
    · rename_i hi
      rw [if_neg hi] at e2
      have : k = .slice none 0 0 := by
        cases hq : o - obs.length with
        | zero => rw [hq] at e2; exact (Option.some.inj e2).symm
        | succ m => rw [hq] at e2; simp at e2
      subst this
      simp [blk]⟩
  have hΩ : ∀ (o : Nat) v, Ω[o]? = some v → (Ω ++ [.slice none 0 0])[o]? = some v := fun o v h => by
    rw [List.getElem?_append_left (List.getElem?_eq_some_iff.1 h).1]; exact h
  have new1 : ∀ {i : Nat} {ob : Ob} {k : Value}, (obs ++ [.grow el sz []])[i]? = some ob → (Ω ++ [.slice none 0 0])[i]? = some k → (obs[i]? = some ob ∧ Ω[i]? = some k) ∨ (i = obs.length ∧ ob = .grow el sz [] ∧ k = .slice none 0 0) := fun {i ob k} e1 e2 => by
    rw [List.getElem?_append] at e1 e2
    rw [← hlen] at e2
    split at e1
    · rename_i hi; rw [if_pos hi] at e2; exact .inl ⟨e1, e2⟩
    · rename_i hi
      rw [if_neg hi] at e2
      cases hq : i - obs.length with
      | zero =>
        rw [hq] at e1 e2
        exact .inr ⟨by omega, (Option.some.inj e1).symm, (Option.some.inj e2).symm⟩
      | succ m => rw [hq] at e1; simp at e1
  refine ⟨hr.defers, hr.size, fun q x hq => ?_, ⟨by simp [hlen], fun i ob k e1 e2 => ?_, fun i j a b p q x hij e1 e2 l1 l2 e3 e4 hp => ?_, fun i ob p b e1 l1 e2 hp => ?_, hr.mem.fr⟩⟩
  · simp only [get] at hq
    split at hq
    · rename_i et; subst et; cases hq
      obtain ⟨v, hv, hrep⟩ := hr.env t _ hx
      rw [hrep.val] at hv
      exact ⟨_, hv, .own _ _ (by rw [hlen, List.getElem?_append_right (Nat.le_refl _)]; simp)⟩
    · obtain ⟨v, hv, hrep⟩ := hr.env q x hq
      exact ⟨v, hv, hrep.mono (fun b hb => ⟨hok b hb, rfl⟩) hΩ⟩
  · rcases new1 e1 e2 with ⟨f1, f2⟩ | ⟨_, rfl, rfl⟩
    · exact (hr.mem.obj i ob k f1 f2).mono (fun b hb => ⟨hok b hb, rfl⟩) hΩ (fun _ _ _ => rfl)
    · exact ⟨0, [], World.ownsRow_nil w 0 el sz, rfl, fun i x y hx => by simp at hx⟩
  · rcases new1 e1 e3 with ⟨f1, f2⟩ | ⟨_, rfl, rfl⟩
    · rcases new1 e2 e4 with ⟨g1, g2⟩ | ⟨_, rfl, rfl⟩
      · exact hr.mem.sep i j a b p q x hij f1 g1 l1 l2 f2 g2 hp
      · simp [blk]
    · cases hp
  · rcases new1 e1 e2 with ⟨f1, f2⟩ | ⟨_, rfl, rfl⟩
    · exact hr.mem.new i ob p b f1 l1 f2 hp
    · cases hp
theorem AC.adopt (t el sz : Nat) {c : Code} (hx : get e t = some (.d (.v (.slice none 0 0)))) (h : AC C c ⟨(t, .own obs.length) :: e, obs ++ [.grow el sz []]⟩ Q) : AC C c ⟨e, obs⟩ Q :=
  fun Ω a w hr => h _ a w (hr.adopt hx el sz)
theorem AO.adopt {l : List Oper} (t el sz : Nat) (hx : get e t = some (.d (.v (.slice none 0 0)))) (h : AO C ops l ⟨(t, .own obs.length) :: e, obs ++ [.grow el sz []]⟩ Q) : AO C ops l ⟨e, obs⟩ Q :=
  fun Ω a w hr => h _ a w (hr.adopt hx el sz)
end
end Go.Vm
