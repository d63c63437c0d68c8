import Derived.Test.YbulkctjgBuildA
import Derived.StringKeys
namespace Go.Proofs.Ybulkctjg
open Go.RowKit
set_option linter.unusedVariables false

def tbS : Nat → ByteArray
  | 0 => ⟨#[109, 48]⟩
  | 1 => ⟨#[109, 49]⟩
  | 2 => ⟨#[109, 50]⟩
  | 3 => ⟨#[112, 48]⟩
  | _ => ⟨#[112, 49]⟩
def nmS (nM n : Nat) : ByteArray := if n < nM then tbS n else tbS (3 + (n - nM))
def strs (m : Nat) : List Value := (List.range m).map (fun n => .string (tbS n))
theorem strs_succ (m : Nat) : strs (m + 1) = strs m ++ [.string (tbS m)] := by unfold strs; rw [List.range_succ, List.map_append]; rfl

section
variable {P : Program} {ops : Array Oper} {rest : List Oper} {o : Oper} {a : Act} {Q : Exit → Act → World → Prop}
theorem wpList_app2 (W : World) (hgd : o.guard = none) (s x : Operand) (t e : TypeId) (ho : o.op = .call { callee := .builtin .append, args := #[s, x], argTypes := #[t, t] }) (ht : P.underlying t = some (.slice e))
    (z : Value) (size bytes : Nat) (hinfo : (P.info? e).map (fun i => (i.zero, i.size, i.bytes)) = some (some z, size, bytes)) (hz : z.cells.size = size) (hsz : 0 < size) (hby : bytes ≤ 1000)
    (v : Value) (n : Nat) (vs : List Value) (hs : a.eval s = v) (hown : W.ownsRow 0 e size v n vs) (B : Nat) (us : List Value) (hB : W.heap[B]? = some (.cells us.toArray e (0, 0))) (hx : a.eval x = .slice (some ⟨B, 0, none⟩) 2 2) (hus : us.length = 2 * size) (hu : ∀ u ∈ us, u.oneCell' = true) (hn : n ≤ 1000)
    (h : ∀ g cap w', w'.ownsRow 0 e size (.slice (some ⟨g, 0, none⟩) (n + 2) cap) (n + 2) (vs ++ us) → Kp (fun k => v.ownBlock = some k) W w' → (v.ownBlock = some g ∨ W.heap.size ≤ g) → g < w'.heap.size → wpList P ops Q rest (a.put o.dst (.slice (some ⟨g, 0, none⟩) (n + 2) cap)) w') :
    wpList P ops Q (o :: rest) a W := by
  obtain ⟨i, hi, hi0, hi1, hi2⟩ := info_parts hinfo
  refine wpList_append_lies W hgd s x t ho 0 e i z size bytes ht hi hi0 hi1 hi2 hz hsz v n vs hs hown ⟨B, 0, none⟩ 2 2 us hx (by omega) (fun j u hj => World.news_of_block hB j u (by simpa using hj)) hu (by omega) (by unfold maxLen; omega) ?_ (Nat.zero_le _) _ rfl ?_
  · calc (n + 2) * bytes ≤ 1002 * 1000 := Nat.mul_le_mul (by omega) hby
      _ ≤ 140737488355328 := by omega
  · intro g cap w' h1 h2 h3 h4
    refine h g cap w' h1 ((Kp.refl _ _).grown h2 (fun k e _ => e)) ?_ h4
    rcases h3 with h3 | h3
    · exact .inl h3
    · exact .inr (by omega)
end

theorem makeN (m : Nat) (hm : m ≤ 100) (w : World) : (Instr.makeSlice 29 (.int .i64 0) (.int .i64 (m : Int))).run Yba.prog w = .ok (.slice (some ⟨w.heap.size, 0, none⟩) 0 m) (w.alloc (.cells (madeCells #[.string ⟨#[]⟩] m) 9)) := by
  obtain ⟨i, hi, hzz⟩ := Option.map_eq_some_iff.1 info9
  simp only [Prod.mk.injEq] at hzz
  obtain ⟨hz, hs, hb⟩ := hzz
  have := run_make w 29 9 i _ Yba.underlying29 hi hz .i64 .i64 0 (m : Int) (by omega) (by omega) (by rw [hb]; omega) (by omega)
  rw [this, hs]
  simp [Value.cells]

/-! ### the map of the names -/
def kl (nM n : Nat) : Lit := .string (nmS nM n).data.toList
theorem nmS_size (nM n : Nat) : (nmS nM n).size ≤ 2 := by
  unfold nmS
  have : ∀ j, (tbS j).size ≤ 2 := by
    intro j
    unfold tbS
    split <;> decide
  split <;> exact this _
theorem kl_ne {nM i j : Nat} (hM : nM ≤ 3) (hM1 : 1 ≤ nM) (hi : i < nM + 2) (hj : j < nM + 2) (h : i ≠ j) : kl nM i ≠ kl nM j := by
  rcases (by omega : nM = 1 ∨ nM = 2 ∨ nM = 3) with e | e | e <;> subst e
  · rcases (by omega : i = 0 ∨ i = 1 ∨ i = 2) with e | e | e <;> subst e <;> rcases (by omega : j = 0 ∨ j = 1 ∨ j = 2) with e | e | e <;> subst e <;> first | exact absurd rfl h | (intro e; have := Lit.string.inj e; revert this; decide)
  · rcases (by omega : i = 0 ∨ i = 1 ∨ i = 2 ∨ i = 3) with e | e | e | e <;> subst e <;> rcases (by omega : j = 0 ∨ j = 1 ∨ j = 2 ∨ j = 3) with e | e | e | e <;> subst e <;> first | exact absurd rfl h | (intro e; have := Lit.string.inj e; revert this; decide)
  · rcases (by omega : i = 0 ∨ i = 1 ∨ i = 2 ∨ i = 3 ∨ i = 4) with e | e | e | e | e <;> subst e <;> rcases (by omega : j = 0 ∨ j = 1 ∨ j = 2 ∨ j = 3 ∨ j = 4) with e | e | e | e | e <;> subst e <;> first | exact absurd rfl h | (intro e; have := Lit.string.inj e; revert this; decide)
theorem key9 : Maps.Keyed Yba.prog 9 := Maps.string_keyed Yba.underlying9
theorem klOf (nM n : Nat) : keyOf Yba.prog 9 (.string (nmS nM n)) = some (kl nM n) := Go.WideMaps.keyOf_string_mk Yba.underlying9 (by have := nmS_size nM n; unfold maxLen; omega)
theorem zero96 (w : World) : (zeroValue 96).run Yba.prog w = .ok (.int .i32 0) w := by
  obtain ⟨i, hi, hzz⟩ := Option.map_eq_some_iff.1 info96
  simp only [Prod.mk.injEq] at hzz
  simp [zeroValue, typeInfo, hi, hzz.1]

def MapN (nM mp i : Nat) (w : World) : Prop := ∃ D : DataW Unit, w.ownsMap Yba.prog 9 (plainElem Yba.prog 96) mp i D ∧ ∀ j, j < i → D.atKey (kl nM j) (.lit (.int .i32 0)) = .lit (.int .i32 (j : Int))
theorem MapN.zero (nM : Nat) (w : World) : MapN nM w.heap.size 0 (w.alloc (.map #[] 0)) := ⟨_, World.ownsMap_made w Yba.prog 9 _, fun j h => by omega⟩
theorem Kp.mapN {M : Nat → Prop} {u v : World} {nM mp i : Nat} (k : Kp M u v) (h : MapN nM mp i u) (hm : ¬ M mp) : MapN nM mp i v := by
  obtain ⟨D, ⟨es, clock, hb, h2⟩, h3⟩ := h
  exact ⟨D, ⟨es, clock, (k.block mp (Array.getElem?_eq_some_iff.1 hb).1 hm).trans hb, h2⟩, h3⟩
theorem MapN.put {nM mp i : Nat} {w : World} (h : MapN nM mp i w) (hM : nM ≤ 3) (hM1 : 1 ≤ nM) (hi : i < nM + 2) : ∃ w', (Instr.mapUpdate 38 (.map (some mp)) (.string (nmS nM i)) (.int .i32 (i : Int))).run Yba.prog w = .ok () w' ∧ MapN nM mp (i + 1) w' ∧ Kp (fun k => k = mp) w w' := by
  obtain ⟨D, ho, h3⟩ := h
  have hw : (Lit.int .i32 (i : Int)).wf = true := by rcases (by omega : i = 0 ∨ i = 1 ∨ i = 2 ∨ i = 3 ∨ i = 4) with e | e | e | e | e <;> subst e <;> decide
  obtain ⟨w', h1, h2, hg⟩ := ho.update key9 Yba.underlying38 (by unfold maxLen; omega) (klOf nM i) (plainElem_int Yba.underlying96 hw)
  refine ⟨w', h1, ⟨_, h2, ?_⟩, (Kp.refl _ _).grown hg (fun k e _ => (Option.some.inj e).symm)⟩
  intro j hj
  by_cases e : j = i
  · subst e
    exact Maps.atKey_put_same ho.isMap (by unfold kl; trivial) _ _
  · rw [Maps.atKey_put_other (kl_ne hM hM1 (by omega) hi e)]
    exact h3 j (by omega)
theorem MapN.is {nM mp : Nat} {w : World} (h : MapN nM mp (nM + 2) w) : MapIs w mp (nmS nM) (nM + 2) := by
  obtain ⟨D, ho, h3⟩ := h
  refine ⟨ho.lt, fun w' e n hn => ?_⟩
  obtain ⟨es, clock, hb, h2⟩ := ho
  have ho' : w'.ownsMap Yba.prog 9 (plainElem Yba.prog 96) mp (nM + 2) D := ⟨es, clock, e.trans hb, h2⟩
  obtain ⟨c, h4, h5, _⟩ := ho'.lookup_int key9 Yba.underlying38 Yba.underlying96 (zero96 w') (klOf nM n)
  rw [h3 n hn] at h5
  have : c = (n : Int) := (congrArg (fun d : DataW Unit => match d with | .lit (.int _ a) => a | _ => 0) h5).symm
  rw [h4, this]

theorem names_get (nM j : Nat) (hM : nM ≤ 3) (hj : j < nM + 2) : (strs nM ++ [.string (tbS 3), .string (tbS 4)])[j]? = some (.string (nmS nM j)) := by
  have hl : (strs nM).length = nM := by simp [strs]
  unfold nmS
  by_cases h : j < nM
  · rw [if_pos h, List.getElem?_append_left (by omega)]
    simp [strs, h]
  · rw [if_neg h, List.getElem?_append_right (by omega), hl]
    rcases (by omega : j = nM ∨ j = nM + 1) with e | e
    · subst e; rw [Nat.sub_self]; rfl
    · subst e; rw [Nat.add_sub_cancel_left]; rfl
theorem owns_cell {w : World} {b t s g n cap : Nat} {xs : List Value} (h : w.ownsRow b t s (.slice (some ⟨g, 0, none⟩) n cap) n xs) {j : Nat} {y : Value} (hj : xs[j]? = some y) : w.cell? ⟨g, j, none⟩ = some y := by
  obtain ⟨h0, h1⟩ := h
  rcases h1 with ⟨h1, _⟩ | ⟨g', cap', cur, h1, h2, h3, h4, h5, h6, h7⟩
  · cases h1
  · injection h1 with h1 _ h8
    injection h1 with h1
    injection h1 with h1 _ _
    subst h1
    rw [cell_of_row w g j _ _ _ h3]
    have hl : j < xs.length := by
      rcases Nat.lt_or_ge j xs.length with h | h
      · exact h
      · rw [List.getElem?_eq_none h] at hj; cases hj
    rw [← h7] at hj
    rw [List.getElem?_take] at hj
    split at hj
    · simpa using hj
    · cases hj


theorem info99 : (Yba.prog.info? 99).map (fun i => (i.zero, i.size, i.bytes)) = some (some (.agg #[.int .i32 0, .string ⟨#[]⟩, .int .i64 0, .pointer none, .slice none 0 0]), 5, 64) := by kernel_rfl

theorem owns_form {w : World} {b t s n : Nat} {v : Value} {xs : List Value} (h : w.ownsRow b t s v n xs) : ∃ ao c, v = .slice ao n c ∧ n ≤ c ∧ (0 < n → ∃ g, ao = some ⟨g, 0, none⟩) ∧ (ao = none ∨ ∃ g, ao = some ⟨g, 0, none⟩) := by
  rcases h.2 with ⟨h1, h2⟩ | ⟨g, cap, cur, h1, h2, h3, h4, _⟩
  · exact ⟨none, 0, by rw [h1, h2], by omega, fun h => by omega, .inl rfl⟩
  · exact ⟨_, _, h1, h4, fun _ => ⟨g, rfl⟩, .inr ⟨g, rfl⟩⟩

section
variable {B0 nM : Nat} {nm : Nat → ByteArray} {x : X} {w w' : World}
/-- a block beside turns -/
theorem BP.oth (h : BP B0 nM nm x w) {B : Nat} (k : Kp (fun k => k = B) w w') (hB : x.fz B) (hne : B ≠ x.L ∧ B ≠ x.mB ∧ B ≠ x.rB ∧ B ≠ x.uB ∧ B ≠ x.mp) (hr : ∀ v, x.rd v = true → x.rp v ≠ B) : BP B0 nM nm x w' := by
  obtain ⟨e1, e2, e3, e4, e5⟩ := hne
  refine ⟨Nat.le_trans h.b0 k.size, h.sl.kp (k.mono (fun i _ e => by rw [e]; exact hB)), (k.block _ (h.sl.fl _ h.f.1).1 (fun e => e1 e.symm)).trans h.hL, k.rowIs h.mat (fun e => e2 e.symm), k.rowIs h.rv (fun e => e3 e.symm), k.rowIs h.uv (fun e => e4 e.symm), k.mapIs h.map (fun e => e5 e.symm), h.f, h.ne, fun v hv => ?_⟩
  obtain ⟨a1, a2, a3⟩ := h.rp v hv
  exact ⟨k.cell a1 (hr v hv), k.cell a2 (hr v hv), a3⟩
/-- a new block beside -/
theorem BP.addfz (h : BP B0 nM nm x w) (k : Kp (fun _ => False) w w') (B : Nat) (hB : w.heap.size ≤ B) (hB' : B < w'.heap.size) : BP B0 nM nm { x with fz := fun k => x.fz k ∨ k = B } w' := by
  have h0 := h.kp0 k
  refine ⟨h0.b0, h.sl.more k h.b0 ?_, h0.hL, h0.mat, h0.rv, h0.uv, h0.map, ⟨.inl h.f.1, .inl h.f.2.1, .inl h.f.2.2.1, .inl h.f.2.2.2.1, .inl h.f.2.2.2.2⟩, h.ne, fun u hu => ?_⟩
  · rintro j (e | e)
    · exact .inl e
    · exact .inr (by omega)
  · obtain ⟨a1, a2, a3, a4⟩ := h0.rp u hu
    exact ⟨a1, a2, .inl a3, a4⟩
end

/-- the graph in the making, whole -/
structure BS (nM L : Nat) (nms : Value) (w2 : World) (pv : Value) (x : X) (p : PD) (vc : Nat → Nat → Value) (w : World) : Prop where
  bp : BP w2.heap.size nM (nmS nM) x w
  bl : BL nM x.ow x.ct x.vs x.rd x.rp x.ctr p vc
  kp : Kp (fun _ => False) w2 w
  hL : x.L = L
  n1 : x.ow 13 = nms
  n2 : x.ct 13 = nM + 2
  n3 : x.vs 13 = strs nM ++ [.string (tbS 3), .string (tbS 4)]
  pv : x.ow 1 = pv
  sm : ∃ pb pc n, x.ow 1 = .slice (some ⟨pb, 0, none⟩) n pc

/-- what a step turns lies above w2 -/
theorem kp_above {w2 u v : World} {M : Nat → Prop} (k : Kp (fun _ => False) w2 u) (k2 : Kp M u v) (hM : ∀ i, M i → w2.heap.size ≤ i) : Kp (fun _ => False) w2 v := k.trans' k2 (fun i hi e => by have := hM i e; omega)

theorem BS.kp0 {nM L : Nat} {nms : Value} {w2 : World} {pv : Value} {x : X} {p : PD} {vc : Nat → Nat → Value} {w w' : World} (h : BS nM L nms w2 pv x p vc w) (k : Kp (fun _ => False) w w') : BS nM L nms w2 pv x p vc w' :=
  ⟨h.bp.kp0 k, h.bl, h.kp.trans k, h.hL, h.n1, h.n2, h.n3, h.pv, h.sm⟩

/-- a revision of m: the three appends are done -/
theorem BS.rev {nM L m : Nat} {nms : Value} {w2 : World} {pv pv' : Value} {x : X} {p : PD} {vc : Nat → Nat → Value} {w w1 w2' w3 : World} (h : BS nM L nms w2 pv x p vc w) (hM : nM ≤ 3) (hV : p.nV ≤ 900) (hm : m < nM)
    {g0 c0 g1 c1 g2 c2 : Nat} (hpv : pv' = .slice (some ⟨g1, 0, none⟩) (p.nV + 1) c1)
    (o0 : w1.ownsRow 0 99 5 (.slice (some ⟨g0, 0, none⟩) (p.nV + 1) c0) (p.nV + 1) (x.vs 0 ++ [.int .i32 (m : Int), .string ⟨#[114]⟩, .int .i64 ((p.nV : Int) + 1), .pointer none, .slice none 0 0])) (k0 : Kp (fun k => (x.ow 0).ownBlock = some k) w w1) (t0 : (x.ow 0).ownBlock = some g0 ∨ w.heap.size ≤ g0)
    (o1 : w2'.ownsRow 0 3 1 (.slice (some ⟨g1, 0, none⟩) (p.nV + 1) c1) (p.nV + 1) (x.vs 1 ++ [.int .i64 ((p.nV : Int) + 1)])) (k1 : Kp (fun k => (x.ow 1).ownBlock = some k) (w1.setCell ⟨L, 3, none⟩ (.slice (some ⟨g0, 0, none⟩) (p.nV + 1) c0)) w2') (t1 : (x.ow 1).ownBlock = some g1 ∨ (w1.setCell ⟨L, 3, none⟩ (.slice (some ⟨g0, 0, none⟩) (p.nV + 1) c0)).heap.size ≤ g1)
    (o2 : w3.ownsRow 0 48 1 (.slice (some ⟨g2, 0, none⟩) ((p.revs m).length + 1) c2) ((p.revs m).length + 1) (x.vs (3 + m) ++ [.int .i32 (p.nV : Int)])) (k2 : Kp (fun k => (x.ow (3 + m)).ownBlock = some k) w2' w3) (t2 : (x.ow (3 + m)).ownBlock = some g2 ∨ w2'.heap.size ≤ g2) :
    ∃ x' vc', BS nM L nms w2 pv' x' (p.addR m) vc' (w3.setCell ⟨x.rB, m, none⟩ (.slice (some ⟨g2, 0, none⟩) ((p.revs m).length + 1) c2)) ∧ x'.fz = x.fz ∧ x'.rB = x.rB ∧ x'.rd = x.rd ∧ x'.uB = x.uB ∧ x'.ow 2 = x.ow 2 ∧ x'.vs 2 = x.vs 2 := by
  have hnf : ∀ i k, (x.ow i).ownBlock = some k → w2.heap.size ≤ k := fun i k e => (h.bp.sl.nf i k e).2
  have b1 := h.bp.app0 o0 k0 t0
  rw [h.hL] at b1
  have kk1 : Kp (fun _ => False) w2 (w1.setCell ⟨L, 3, none⟩ (.slice (some ⟨g0, 0, none⟩) (p.nV + 1) c0)) := (kp_above h.kp k0 (fun i e => hnf 0 i e)).setCell (fun hlt => by have := (h.bp.sl.fl _ h.bp.f.1).2; rw [h.hL] at this; dsimp only at hlt; omega) _
  have b2 := b1.app 1 (by omega) (by omega) (fun n _ => by omega) (fun n _ => by omega) (g := g1) (cap := c1) (n' := p.nV + 1) (xs' := x.vs 1 ++ [.int .i64 ((p.nV : Int) + 1)]) o1 (by dsimp only; rw [up_ne _ _ (by omega)]; exact k1) (by dsimp only; rw [up_ne _ _ (by omega)]; exact t1)
  have kk2 := kp_above kk1 k1 (fun i e => hnf 1 i e)
  have b3 := b2.appR m (by omega) hM (g := g2) (cap := c2) (n' := (p.revs m).length + 1) (xs' := x.vs (3 + m) ++ [.int .i32 (p.nV : Int)]) o2 (by dsimp only; rw [up_ne _ _ (by omega), up_ne _ _ (by omega)]; exact k2) (by dsimp only; rw [up_ne _ _ (by omega), up_ne _ _ (by omega)]; exact t2)
  have kk3 := (kp_above kk2 k2 (fun i e => hnf (3 + m) i e)).setCell (a := ⟨x.rB, m, none⟩) (fun hlt => by have := (h.bp.sl.fl _ h.bp.f.2.2.1).2; dsimp only at hlt; omega) (.slice (some ⟨g2, 0, none⟩) ((p.revs m).length + 1) c2)
  have hl := h.bl.rev hM hV hm (.slice (some ⟨g0, 0, none⟩) (p.nV + 1) c0) (.slice (some ⟨g1, 0, none⟩) (p.nV + 1) c1) (.slice (some ⟨g2, 0, none⟩) ((p.revs m).length + 1) c2) (fun j => [Value.int .i32 (m : Int), .string ⟨#[114]⟩, .int .i64 ((p.nV : Int) + 1), .pointer none, .slice none 0 0].getD j undef) [.int .i32 (m : Int), .string ⟨#[114]⟩, .int .i64 ((p.nV : Int) + 1), .pointer none, .slice none 0 0] rfl (fun j hj => by rcases (by omega : j = 0 ∨ j = 1 ∨ j = 2 ∨ j = 3 ∨ j = 4) with e | e | e | e | e <;> subst e <;> rfl) rfl rfl rfl
  refine ⟨_, _, ⟨b3, hl, kk3, rfl, ?_, ?_, ?_, ?_, g1, c1, p.nV + 1, by dsimp only; rw [up_ne _ _ (by omega), up_same]⟩, rfl, rfl, rfl, rfl, ?_, ?_⟩
  · dsimp only; rw [up_ne _ _ (by omega), up_ne _ _ (by omega), up_ne _ _ (by omega)]; exact h.n1
  · dsimp only; rw [up_ne _ _ (by omega), up_ne _ _ (by omega), up_ne _ _ (by omega)]; exact h.n2
  · dsimp only; rw [up_ne _ _ (by omega), up_ne _ _ (by omega), up_ne _ _ (by omega)]; exact h.n3
  · dsimp only; rw [up_ne _ _ (by omega), up_same]; exact hpv.symm
  · dsimp only; rw [up_ne _ _ (by omega), up_ne _ _ (by omega), up_ne _ _ (by omega)]
  · dsimp only; rw [up_ne _ _ (by omega), up_ne _ _ (by omega), up_ne _ _ (by omega)]

/-- a run of n: the box and the three appends are done -/
theorem BS.run {nM L n : Nat} {nms : Value} {w2 : World} {pv pv' : Value} {x : X} {p : PD} {vc : Nat → Nat → Value} {w wb w1 w2' w3 : World} (h : BS nM L nms w2 pv x p vc w) (hM : nM ≤ 3) (hn : nM ≤ n) (hn2 : n < nM + 2)
    {g0 c0 g1 c1 g2 c2 B cn ps : Nat} {l : List Nat} {pas : Bool} (hpv : pv' = .slice (some ⟨g1, 0, none⟩) (p.nV + 1) c1) (hps : ps ≤ 1000) (hcn : cn ≤ 1000) (hl : ∀ u, u ∈ l → u < p.nV ∧ p.ins u = [] ∧ p.node u < nM) (hlm : (l.map p.node).Nodup) (hll : l.length ≤ 3) (h2 : x.vs 2 = i32s l)
    (kb : Kp (fun _ => False) w wb) (hB : w.heap.size ≤ B) (hB' : B < wb.heap.size) (q1 : wb.cell? ⟨B, 1, none⟩ = some (.int .i64 ((cn : Nat) : Int))) (q3 : wb.cell? ⟨B, 3, none⟩ = some (.string (if pas then strPassed else strFailed)))
    (o0 : w1.ownsRow 0 99 5 (.slice (some ⟨g0, 0, none⟩) (p.nV + 1) c0) (p.nV + 1) (x.vs 0 ++ [.int .i32 (n : Int), .string ⟨#[99]⟩, .int .i64 0, .pointer (some ⟨B, 0, none⟩), x.ow 2])) (k0 : Kp (fun k => (x.ow 0).ownBlock = some k) wb w1) (t0 : (x.ow 0).ownBlock = some g0 ∨ wb.heap.size ≤ g0)
    (o1 : w2'.ownsRow 0 3 1 (.slice (some ⟨g1, 0, none⟩) (p.nV + 1) c1) (p.nV + 1) (x.vs 1 ++ [.int .i64 (ps : Int)])) (k1 : Kp (fun k => (x.ow 1).ownBlock = some k) (w1.setCell ⟨L, 3, none⟩ (.slice (some ⟨g0, 0, none⟩) (p.nV + 1) c0)) w2') (t1 : (x.ow 1).ownBlock = some g1 ∨ (w1.setCell ⟨L, 3, none⟩ (.slice (some ⟨g0, 0, none⟩) (p.nV + 1) c0)).heap.size ≤ g1)
    (o2 : w3.ownsRow 0 48 1 (.slice (some ⟨g2, 0, none⟩) ((p.runs n).length + 1) c2) ((p.runs n).length + 1) (x.vs (8 + n) ++ [.int .i32 (p.nV : Int)])) (k2 : Kp (fun k => (x.ow (8 + n)).ownBlock = some k) w2' w3) (t2 : (x.ow (8 + n)).ownBlock = some g2 ∨ w2'.heap.size ≤ g2) :
    ∃ x' vc', BS nM L nms w2 pv' x' (p.addU n ps l) vc' (w3.setCell ⟨x.uB, n, none⟩ (.slice (some ⟨g2, 0, none⟩) ((p.runs n).length + 1) c2)) ∧ (∀ k, x.fz k → x'.fz k) ∧ (x'.uB = x.uB ∧ x'.rB = x.rB ∧ x'.mB = x.mB ∧ x'.mp = x.mp) ∧ x'.ow 2 = .slice none 0 0 ∧ x'.vs 2 = [] ∧ (∀ v, x'.rd v = true → x.rd v = true ∧ x'.rp v = x.rp v ∨ x'.rp v = B) := by
  have hnf : ∀ i k, (x.ow i).ownBlock = some k → w2.heap.size ≤ k := fun i k e => (h.bp.sl.nf i k e).2
  have b0 := h.bp.box kb p.nV B cn pas hB hB' q1 q3
  have kk0 := h.kp.trans kb
  have b1 := b0.app0 o0 k0 t0
  dsimp only at b1
  rw [h.hL] at b1
  have kk1 : Kp (fun _ => False) w2 (w1.setCell ⟨L, 3, none⟩ (.slice (some ⟨g0, 0, none⟩) (p.nV + 1) c0)) := (kp_above kk0 k0 (fun i e => hnf 0 i e)).setCell (fun hlt => by have := (h.bp.sl.fl _ h.bp.f.1).2; rw [h.hL] at this; dsimp only at hlt; omega) _
  have b2 := b1.app 1 (by omega) (by omega) (fun n _ => by omega) (fun n _ => by omega) (g := g1) (cap := c1) (n' := p.nV + 1) (xs' := x.vs 1 ++ [.int .i64 (ps : Int)]) o1 (by dsimp only; rw [up_ne _ _ (by omega)]; exact k1) (by dsimp only; rw [up_ne _ _ (by omega)]; exact t1)
  have kk2 := kp_above kk1 k1 (fun i e => hnf 1 i e)
  have b3 := b2.appU n hn2 hM (g := g2) (cap := c2) (n' := (p.runs n).length + 1) (xs' := x.vs (8 + n) ++ [.int .i32 (p.nV : Int)]) o2 (by dsimp only; rw [up_ne _ _ (by omega), up_ne _ _ (by omega)]; exact k2) (by dsimp only; rw [up_ne _ _ (by omega), up_ne _ _ (by omega)]; exact t2)
  have kk3 := (kp_above kk2 k2 (fun i e => hnf (8 + n) i e)).setCell (a := ⟨x.uB, n, none⟩) (fun hlt => by have := (h.bp.sl.fl _ h.bp.f.2.2.2.1).2; dsimp only at hlt; omega) (.slice (some ⟨g2, 0, none⟩) ((p.runs n).length + 1) c2)
  have b4 := b3.mv p.nV hM
  have e2 : ∀ {α : Type} (f : Nat → α) (a b c : α), up (up (up f 0 a) 1 b) (8 + n) c 2 = f 2 := fun f a b c => by rw [up_ne _ _ (by omega), up_ne _ _ (by omega), up_ne _ _ (by omega)]
  have hl := h.bl.run hM hn hn2 (.slice (some ⟨g0, 0, none⟩) (p.nV + 1) c0) (.slice (some ⟨g1, 0, none⟩) (p.nV + 1) c1) (.slice (some ⟨g2, 0, none⟩) ((p.runs n).length + 1) c2) (up (up (up x.ow 0 (.slice (some ⟨g0, 0, none⟩) (p.nV + 1) c0)) 1 (.slice (some ⟨g1, 0, none⟩) (p.nV + 1) c1)) (8 + n) (.slice (some ⟨g2, 0, none⟩) ((p.runs n).length + 1) c2) 2) (fun j => [Value.int .i32 (n : Int), .string ⟨#[99]⟩, .int .i64 0, .pointer (some ⟨B, 0, none⟩), x.ow 2].getD j undef) [.int .i32 (n : Int), .string ⟨#[99]⟩, .int .i64 0, .pointer (some ⟨B, 0, none⟩), x.ow 2] rfl (fun j hj => by rcases (by omega : j = 0 ∨ j = 1 ∨ j = 2 ∨ j = 3 ∨ j = 4) with e | e | e | e | e <;> subst e <;> rfl) B cn ps l rfl rfl (by rw [e2]; rfl) hps hcn hl hlm hll (up (up (up x.ct 0 (p.nV + 1)) 1 (p.nV + 1)) (8 + n) ((p.runs n).length + 1) 2) (up (up (up x.vs 0 (x.vs 0 ++ [.int .i32 (n : Int), .string ⟨#[99]⟩, .int .i64 0, .pointer (some ⟨B, 0, none⟩), x.ow 2])) 1 (x.vs 1 ++ [.int .i64 (ps : Int)])) (8 + n) (x.vs (8 + n) ++ [.int .i32 (p.nV : Int)]) 2) (by rw [e2]; exact h2)
  have e13 : ∀ {α : Type} (f : Nat → α) (a b c d e : α), up (up (up (up (up f 0 a) 1 b) (8 + n) c) (20 + p.nV) d) 2 e 13 = f 13 := fun f a b c d e => by rw [up_ne _ _ (by omega), up_ne _ _ (by omega), up_ne _ _ (by omega), up_ne _ _ (by omega), up_ne _ _ (by omega)]
  refine ⟨_, _, ⟨b4, hl, kk3, rfl, ?_, ?_, ?_, ?_, g1, c1, p.nV + 1, by dsimp only; rw [up_ne _ _ (by omega), up_ne _ _ (by omega), up_ne _ _ (by omega), up_same]⟩, fun k e => .inl e, ⟨rfl, rfl, rfl, rfl⟩, ?_, ?_, ?_⟩
  · dsimp only; rw [e13]; exact h.n1
  · dsimp only; rw [e13]; exact h.n2
  · dsimp only; rw [e13]; exact h.n3
  · dsimp only; rw [up_ne _ _ (by omega), up_ne _ _ (by omega), up_ne _ _ (by omega), up_same]; exact hpv.symm
  · dsimp only; rw [up_same]
  · dsimp only; rw [up_same]
  · intro v
    dsimp only
    by_cases e : v = p.nV
    · subst e; intro _; right; rw [up_same]
    · rw [up_ne _ _ e, up_ne _ _ e]; intro hv; exact .inl ⟨hv, rfl⟩

/-- a run's inputs grow -/
theorem BS.ins {nM L : Nat} {nms : Value} {w2 : World} {pv : Value} {x : X} {p : PD} {vc : Nat → Nat → Value} {w w' : World} (h : BS nM L nms w2 pv x p vc w) (hM : nM ≤ 3) {g cap n' : Nat} {xs' : List Value} (hown : w'.ownsRow 0 48 1 (.slice (some ⟨g, 0, none⟩) n' cap) n' xs') (k : Kp (fun k => (x.ow 2).ownBlock = some k) w w') (hat : (x.ow 2).ownBlock = some g ∨ w.heap.size ≤ g) :
    BS nM L nms w2 pv { x with ow := up x.ow 2 (.slice (some ⟨g, 0, none⟩) n' cap), ct := up x.ct 2 n', vs := up x.vs 2 xs' } p vc w' := by
  refine ⟨h.bp.app 2 (by omega) (by omega) (fun n _ => by omega) (fun n _ => by omega) hown k hat, h.bl.two _ _ _ hM, kp_above h.kp k (fun i e => (h.bp.sl.nf 2 i e).2), h.hL, ?_, ?_, ?_, ?_, (by dsimp only; rw [up_ne _ _ (by omega)]; exact h.sm)⟩
  · dsimp only; rw [up_ne _ _ (by omega)]; exact h.n1
  · dsimp only; rw [up_ne _ _ (by omega)]; exact h.n2
  · dsimp only; rw [up_ne _ _ (by omega)]; exact h.n3
  · dsimp only; rw [up_ne _ _ (by omega)]; exact h.pv
/-- a new block beside -/
theorem BS.addfz {nM L : Nat} {nms : Value} {w2 : World} {pv : Value} {x : X} {p : PD} {vc : Nat → Nat → Value} {w w' : World} (h : BS nM L nms w2 pv x p vc w) (k : Kp (fun _ => False) w w') (B : Nat) (hB : w.heap.size ≤ B) (hB' : B < w'.heap.size) :
    BS nM L nms w2 pv { x with fz := fun k => x.fz k ∨ k = B } p vc w' := ⟨h.bp.addfz k B hB hB', h.bl, h.kp.trans k, h.hL, h.n1, h.n2, h.n3, h.pv, h.sm⟩
theorem BS.oth {nM L : Nat} {nms : Value} {w2 : World} {pv : Value} {x : X} {p : PD} {vc : Nat → Nat → Value} {w w' : World} (h : BS nM L nms w2 pv x p vc w) {B : Nat} (k : Kp (fun k => k = B) w w') (hB : x.fz B) (hne : B ≠ x.L ∧ B ≠ x.mB ∧ B ≠ x.rB ∧ B ≠ x.uB ∧ B ≠ x.mp) (hr : ∀ v, x.rd v = true → x.rp v ≠ B) : BS nM L nms w2 pv x p vc w' :=
  ⟨h.bp.oth k hB hne hr, h.bl, kp_above h.kp k (fun i e => by rw [e]; exact (h.bp.sl.fl B hB).2), h.hL, h.n1, h.n2, h.n3, h.pv, h.sm⟩

def nilS : Value := .slice none 0 0
theorem BS_init {nM L mB rB uB mp g cap P0 : Nat} {w2 w : World} (hM3 : nM ≤ 3) (k : Kp (fun _ => False) w2 w)
    (hL : w.heap[L]? = some (.cells #[.slice (some ⟨g, 0, none⟩) (nM + 2) cap, .slice (some ⟨mB, 0, none⟩) (nM + 2) (nM + 2), .map (some mp), .slice none 0 0, .slice (some ⟨rB, 0, none⟩) (nM + 2) (nM + 2), .slice (some ⟨uB, 0, none⟩) (nM + 2) (nM + 2), .slice none 0 0, .int .i64 0, .map none] 42 (0, 0)))
    (mat : w.rowIs mB 4 (nM + 2) (fun n => .bool (decide (n < nM)))) (rv : w.rowIs rB 33 (nM + 2) (fun _ => .slice none 0 0)) (uv : w.rowIs uB 33 (nM + 2) (fun _ => .slice none 0 0)) (map : MapIs w mp (nmS nM) (nM + 2))
    (hnm : w.ownsRow 0 9 1 (.slice (some ⟨g, 0, none⟩) (nM + 2) cap) (nM + 2) (strs nM ++ [.string (tbS 3), .string (tbS 4)])) (hpos : w.ownsRow 0 3 1 (.slice (some ⟨P0, 0, none⟩) 0 0) 0 []) (hne : L = mp + 1 ∧ mB = L + 1 ∧ rB = L + 2 ∧ uB = L + 3 ∧ g < mp ∧ uB < P0 ∧ w2.heap.size ≤ g) :
    ∃ x p vc, BS nM L (.slice (some ⟨g, 0, none⟩) (nM + 2) cap) w2 (.slice (some ⟨P0, 0, none⟩) 0 0) x p vc w ∧ p.nV = 0 ∧ (∀ n, p.revs n = []) ∧ (∀ n, p.runs n = []) ∧ (∀ v, x.rd v = false) ∧ x.ow 2 = .slice none 0 0 ∧ x.vs 2 = [] ∧ x.rB = rB ∧ x.uB = uB := by
  obtain ⟨e1, e2, e3, e4, e5, e6, e7⟩ := hne
  have hlP := (World.ownsRow.lt hpos P0 rfl).2
  refine ⟨⟨L, mB, rB, uB, mp, fun k => k = L ∨ k = mB ∨ k = rB ∨ k = uB ∨ k = mp, fun i => if i = 1 then .slice (some ⟨P0, 0, none⟩) 0 0 else if i = 13 then .slice (some ⟨g, 0, none⟩) (nM + 2) cap else .slice none 0 0, fun i => if i = 13 then nM + 2 else 0, fun i => if i = 13 then strs nM ++ [.string (tbS 3), .string (tbS 4)] else [], fun _ => false, fun _ => 0, fun _ => 0, fun _ => false⟩, ⟨0, fun _ => 0, fun _ => 0, fun _ => 0, fun _ => [], fun _ => [], fun _ => []⟩, fun _ _ => undef, ⟨⟨?_, ⟨?_, ?_, ?_, ?_⟩, hL, mat, rv.congr ?_, uv.congr ?_, map, ⟨.inl rfl, .inr (.inl rfl), .inr (.inr (.inl rfl)), .inr (.inr (.inr (.inl rfl))), .inr (.inr (.inr (.inr rfl)))⟩, ⟨?_, ?_, ?_, ?_, ?_, ?_, ?_, ?_, ?_⟩, fun v h => by cases h⟩, ?_, k, rfl, rfl, rfl, rfl, rfl, P0, 0, 0, rfl⟩, rfl, fun _ => rfl, fun _ => rfl, fun _ => rfl, rfl, rfl, rfl, rfl⟩
  · exact k.size
  · intro i
    by_cases h1 : i = 1
    · subst h1; exact hpos
    · by_cases h2 : i = 13
      · subst h2; exact hnm
      · simp only [if_neg h1, if_neg h2]
        exact World.ownsRow_nil w 0 _ _
  · intro i j l hij hi hj
    dsimp only at hi hj
    by_cases h1 : i = 1
    · rw [if_pos h1] at hi
      have hl : P0 = l := by simpa [Value.ownBlock] using hi
      rw [if_neg (by omega)] at hj
      by_cases h2 : j = 13
      · rw [if_pos h2] at hj
        have : g = l := by simpa [Value.ownBlock] using hj
        omega
      · rw [if_neg h2] at hj; cases hj
    · rw [if_neg h1] at hi
      by_cases h2 : i = 13
      · rw [if_pos h2] at hi
        have hl : g = l := by simpa [Value.ownBlock] using hi
        by_cases h3 : j = 1
        · rw [if_pos h3] at hj
          have : P0 = l := by simpa [Value.ownBlock] using hj
          omega
        · rw [if_neg h3, if_neg (by omega)] at hj; cases hj
      · rw [if_neg h2] at hi; cases hi
  · intro i l hi
    dsimp only at hi
    by_cases h1 : i = 1
    · rw [if_pos h1] at hi
      have hl : P0 = l := by simpa [Value.ownBlock] using hi
      refine ⟨?_, by omega⟩
      rintro (e | e | e | e | e) <;> omega
    · rw [if_neg h1] at hi
      by_cases h2 : i = 13
      · rw [if_pos h2] at hi
        have hl : g = l := by simpa [Value.ownBlock] using hi
        refine ⟨?_, by omega⟩
        rintro (e | e | e | e | e) <;> omega
      · rw [if_neg h2] at hi; cases hi
  · have := k.size
    rintro l (e | e | e | e | e) <;> (subst e; constructor <;> omega)
  · intro n hn
    dsimp only
    rw [if_neg (by omega), if_neg (by omega)]
  · intro n hn
    dsimp only
    rw [if_neg (by omega), if_neg (by omega)]
  all_goals try (dsimp only; omega)
  refine ⟨rfl, rfl, fun v h => absurd h (Nat.not_lt_zero _), rfl, rfl, fun v h => absurd h (Nat.not_lt_zero _), ?_, ?_, fun v h => absurd h (Nat.not_lt_zero _), fun v h => absurd h (Nat.not_lt_zero _), fun v h => absurd h (Nat.not_lt_zero _), fun v h => absurd h (Nat.not_lt_zero _), fun v h => absurd h (Nat.not_lt_zero _), fun v h => absurd h (Nat.not_lt_zero _), fun v h => absurd h (Nat.not_lt_zero _), fun v h => absurd h (Nat.not_lt_zero _), fun v h => absurd h (Nat.not_lt_zero _), fun n h u hu => (by cases hu), fun n h h2 u hu => (by cases hu), fun v h => absurd h (Nat.not_lt_zero _), fun v => Nat.zero_le _, ?_⟩
  · intro n hn
    dsimp only
    rw [if_neg (by omega)]; rfl
  · intro n hn
    dsimp only
    rw [if_neg (by omega)]; rfl
  · intro v hv
    dsimp only
    rw [if_neg (by omega), if_neg (by omega), if_neg (by omega)]
    exact ⟨rfl, rfl⟩

/-- append, not laid open -/
def appSem (ats : Array TypeId) (ty : TypeId) (args : Array Value) : Sem Value := Builtin.append_ ats ty args
theorem app_pre (ats : Array TypeId) (ty : TypeId) (args : Array Value) : Builtin.append_ ats ty args = appSem ats ty args := rfl
/-- append of one element: the run -/
theorem run_app (W : World) (t ty e : TypeId) (ht : Yba.prog.underlying t = some (.slice e)) (z : Value) (size bytes : Nat) (hinfo : (Yba.prog.info? e).map (fun i => (i.zero, i.size, i.bytes)) = some (some z, size, bytes)) (hz : z.cells.size = size) (hsz : 0 < size) (hby : bytes ≤ 1000)
    (v : Value) (n : Nat) (vs : List Value) (hown : W.ownsRow 0 e size v n vs) (B : Nat) (us : List Value) (hB : W.heap[B]? = some (.cells us.toArray e (0, 0))) (hus : us.length = size) (hu : ∀ u ∈ us, u.oneCell' = true) (hn : n ≤ 1000) :
    ∃ g cap w', (appSem #[t, t] ty #[v, .slice (some ⟨B, 0, none⟩) 1 1]).run Yba.prog W = .ok (.slice (some ⟨g, 0, none⟩) (n + 1) cap) w' ∧ w'.ownsRow 0 e size (.slice (some ⟨g, 0, none⟩) (n + 1) cap) (n + 1) (vs ++ us) ∧ Kp (fun k => v.ownBlock = some k) W w' ∧ (v.ownBlock = some g ∨ W.heap.size ≤ g) ∧ g < w'.heap.size := by
  obtain ⟨i, hi, hi0, hi1, hi2⟩ := info_parts hinfo
  obtain ⟨g, cap, w', h1, h2, h3, h4, h5⟩ := run_append_lies (P := Yba.prog) (w := W) t ty 0 e i z size bytes ht hi hi0 hi1 hi2 hz hsz v n vs hown ⟨B, 0, none⟩ 1 1 us (by omega) (fun j u hj => World.news_of_block hB j u (by simpa using hj)) hu (by omega) (by unfold maxLen; omega) (by
    calc (n + 1) * bytes ≤ 1001 * 1000 := Nat.mul_le_mul (by omega) hby
      _ ≤ 140737488355328 := by omega) (Nat.zero_le _) _ rfl
  refine ⟨g, cap, w', h1, h2, (Kp.refl _ _).grown h3 (fun k e _ => e), ?_, h5⟩
  rcases h4 with h4 | h4
  · exact .inl h4
  · exact .inr (by omega)
theorem BP.lrow {B0 nM : Nat} {nm : Nat → ByteArray} {x : X} {w : World} (h : BP B0 nM nm x w) : ∃ f, w.rowIs x.L 42 9 f :=
  ⟨fun i => (lC nM x).getD i undef, _, h.hL, rfl, fun i hi => by
    rcases (by omega : i = 0 ∨ i = 1 ∨ i = 2 ∨ i = 3 ∨ i = 4 ∨ i = 5 ∨ i = 6 ∨ i = 7 ∨ i = 8) with e | e | e | e | e | e | e | e | e <;> subst e <;> rfl⟩

def R4 (nM L g cap q : Nat) (w2 : World) (rB uB r : Nat) (pv : Value) (w : World) : Prop :=
  ∃ x p vc, BS nM L (.slice (some ⟨g, 0, none⟩) (nM + 2) cap) w2 pv x p vc w ∧ p.nV ≤ 3 * q + r ∧ (∀ n, (p.revs n).length ≤ 3) ∧ (p.revs q).length = r ∧ (∀ n, q + 1 ≤ n → p.revs n = []) ∧ (∀ n, p.runs n = []) ∧ (∀ v, x.rd v = false) ∧ x.ow 2 = .slice none 0 0 ∧ x.vs 2 = [] ∧ x.rB = rB ∧ x.uB = uB
theorem R4.of {nM L g cap q rB uB r : Nat} {w2 w : World} {pv : Value} {x x' : X} {p : PD} {vc' : Nat → Nat → Value} (h : BS nM L (.slice (some ⟨g, 0, none⟩) (nM + 2) cap) w2 pv x' (p.addR q) vc' w) (hr3 : r + 1 ≤ 3) (a1 : p.nV ≤ 3 * q + r) (a2 : ∀ n, (p.revs n).length ≤ 3) (a2' : (p.revs q).length = r) (a3 : ∀ n, q + 1 ≤ n → p.revs n = []) (a4 : ∀ n, p.runs n = []) (a5 : ∀ v, x.rd v = false) (a6 : x.ow 2 = .slice none 0 0) (a7 : x.vs 2 = []) (a8 : x.rB = rB) (a9 : x.uB = uB)
    (f2 : x'.rB = x.rB) (f3 : x'.rd = x.rd) (f4 : x'.uB = x.uB) (f5 : x'.ow 2 = x.ow 2) (f6 : x'.vs 2 = x.vs 2) : R4 nM L g cap q w2 rB uB (r + 1) pv w := by
  refine ⟨x', p.addR q, vc', h, by show p.nV + 1 ≤ _; omega, fun n => ?_, ?_, fun n hn => ?_, a4, fun v => by rw [f3]; exact a5 v, f5.trans a6, f6.trans a7, f2.trans a8, f4.trans a9⟩
  · show (up p.revs q (p.revs q ++ [p.nV]) n).length ≤ 3
    by_cases e : n = q
    · rw [e, up_same, List.length_append, a2']; exact hr3
    · rw [up_ne _ _ e]; exact a2 n
  · show (up p.revs q (p.revs q ++ [p.nV]) q).length = r + 1
    rw [up_same, List.length_append, a2']; rfl
  · show up p.revs q (p.revs q ++ [p.nV]) n = []
    rw [up_ne _ _ (by omega)]; exact a3 n hn

/-- a run among the arguments -/
structure RunA where
  pi : Nat
  pa : Bool
  us : Nat → Bool
  rv : Nat → Nat
def RunAt (w : World) (rb o : Nat) (a : RunA) : Prop :=
  a.pi < 256 ∧ (∀ j, a.rv j < 256) ∧ w.cell? ⟨rb, o, none⟩ = some (.int .u8 (a.pi : Int)) ∧ w.cell? ⟨rb, o + 1, none⟩ = some (.bool a.pa) ∧ w.cell? ⟨rb, o + 2, none⟩ = some (.bool (a.us 0)) ∧ w.cell? ⟨rb, o + 3, none⟩ = some (.bool (a.us 1)) ∧ w.cell? ⟨rb, o + 4, none⟩ = some (.bool (a.us 2)) ∧ w.cell? ⟨rb, o + 5, none⟩ = some (.int .u8 (a.rv 0 : Int)) ∧ w.cell? ⟨rb, o + 6, none⟩ = some (.int .u8 (a.rv 1 : Int)) ∧ w.cell? ⟨rb, o + 7, none⟩ = some (.int .u8 (a.rv 2 : Int))
def RunsAt (w : World) (ra : Option Addr) (rn : Nat) : Prop :=
  ∀ j, j < rn → ∃ rb ro a, ra = some ⟨rb, ro, none⟩ ∧ rb < w.heap.size ∧ RunAt w rb (ro + j * 8) a

def CB (x : X) (cB : Nat) (cf : Nat → Nat) (w : World) : Prop :=
  x.fz cB ∧ (cB ≠ x.L ∧ cB ≠ x.mB ∧ cB ≠ x.rB ∧ cB ≠ x.uB ∧ cB ≠ x.mp) ∧ (∀ v, x.rd v = true → x.rp v ≠ cB) ∧ w.rowIs cB 100 2 (fun j => .int .i64 ((cf j : Nat) : Int))
def R5 (nM L g cap : Nat) (w2 : World) (rB uB cB p : Nat) (pv : Value) (w : World) : Prop :=
  ∃ x pd vc cf, BS nM L (.slice (some ⟨g, 0, none⟩) (nM + 2) cap) w2 pv x pd vc w ∧ pd.nV ≤ 9 + p ∧ (∀ n, (pd.revs n).length ≤ 3) ∧ (∀ n, (pd.runs n).length ≤ p) ∧ x.ow 2 = .slice none 0 0 ∧ x.vs 2 = [] ∧ x.rB = rB ∧ x.uB = uB ∧ CB x cB cf w ∧ ∀ j, cf j ≤ p
def rcell (a : RunA) (j : Nat) : Value :=
  if j = 0 then .int .u8 (a.pi : Int) else if j = 1 then .bool a.pa else if j = 2 then .bool (a.us 0) else if j = 3 then .bool (a.us 1) else if j = 4 then .bool (a.us 2) else if j = 5 then .int .u8 (a.rv 0 : Int) else if j = 6 then .int .u8 (a.rv 1 : Int) else .int .u8 (a.rv 2 : Int)
def R6 (nM L g cap : Nat) (w2 : World) (rB uB cB rr : Nat) (a : RunA) (pd : PD) (vc : Nat → Nat → Value) (cf : Nat → Nat) (pv : Value) (mm : Nat) (iv : Value) (ps : Nat) (w : World) : Prop :=
  ∃ x l, BS nM L (.slice (some ⟨g, 0, none⟩) (nM + 2) cap) w2 pv x pd vc w ∧ x.ow 2 = iv ∧ x.vs 2 = i32s l ∧ (∀ u, u ∈ l → u < pd.nV ∧ pd.ins u = [] ∧ pd.node u < mm) ∧ (l.map pd.node).Nodup ∧ l.length ≤ mm ∧ ps ≤ 1000 ∧ x.rB = rB ∧ x.uB = uB ∧ CB x cB cf w ∧ x.fz rr ∧ w.rowIs rr 103 8 (rcell a)

theorem R6.next {nM L g cap : Nat} {w2 : World} {rB uB cB rr : Nat} {a : RunA} {pd : PD} {vc : Nat → Nat → Value} {cf : Nat → Nat} {pv : Value} {mm : Nat} {iv : Value} {ps : Nat} {w : World} (h : R6 nM L g cap w2 rB uB cB rr a pd vc cf pv mm iv ps w) : R6 nM L g cap w2 rB uB cB rr a pd vc cf pv (mm + 1) iv ps w := by
  obtain ⟨x, l, hbs, b1, b2, b3, b4, b5, b6⟩ := h
  refine ⟨x, l, hbs, b1, b2, fun u hu => ?_, b4, by omega, b6⟩
  obtain ⟨c1, c2, c3⟩ := b3 u hu
  exact ⟨c1, c2, by omega⟩
/-- what the round of the inputs reads -/
structure R6f (nM L rB rr : Nat) (a : RunA) (pd : PD) (x : X) (mm : Nat) (l : List Nat) (w : World) : Prop where
  l4 : w.cell? ⟨L, 4, none⟩ = some (.slice (some ⟨rB, 0, none⟩) (nM + 2) (nM + 2))
  l3 : w.cell? ⟨L, 3, none⟩ = some (x.ow 0)
  rc : w.cell? ⟨rB, mm, none⟩ = some (x.ow (3 + mm))
  o3 : w.ownsRow 0 48 1 (x.ow (3 + mm)) (pd.revs mm).length (i32s (pd.revs mm))
  o0 : w.ownsRow 0 99 5 (x.ow 0) pd.nV (x.vs 0)
  o2 : w.ownsRow 0 48 1 (x.ow 2) l.length (i32s l)
  ru : w.cell? ⟨rr, 2 + mm, none⟩ = some (.bool (a.us mm))
  rw : w.cell? ⟨rr, 5 + mm, none⟩ = some (.int .u8 (a.rv mm : Int))
theorem BS.r6f {nM L rr mm : Nat} {nms : Value} {w2 : World} {pv : Value} {x : X} {pd : PD} {vc : Nat → Nat → Value} {w : World} {a : RunA} {l : List Nat} (h : BS nM L nms w2 pv x pd vc w) (hM : nM ≤ 3) (hm : mm < nM) (h2 : x.vs 2 = i32s l) (hr : w.rowIs rr 103 8 (rcell a)) : R6f nM L x.rB rr a pd x mm l w := by
  have lc := h.bp.lc
  rw [h.hL] at lc
  have o3 := h.bp.sl.own (3 + mm)
  have o0 := h.bp.sl.own 0
  have o2 := h.bp.sl.own 2
  rw [tyS_else (by omega) (by omega) (by omega), szS_else (by omega)] at o3
  have hl3 := o3.1
  rw [h.bl.r mm (by omega), i32s_length] at hl3
  rw [h.bl.r mm (by omega), show x.ct (3 + mm) = (pd.revs mm).length by omega] at o3
  rw [h.bl.c0] at o0
  have hl2 := o2.1
  rw [h2, i32s_length] at hl2
  have hs2 : szS 2 = 1 := rfl
  rw [hs2] at hl2
  rw [h2, show x.ct 2 = l.length by omega] at o2
  refine ⟨lc.2.2.2.2.1, lc.2.2.2.1, h.bp.rv.cell (by omega), o3, o0, o2, ?_, ?_⟩
  · rw [hr.cell (by omega)]
    rcases (by omega : mm = 0 ∨ mm = 1 ∨ mm = 2) with e | e | e <;> subst e <;> rfl
  · rw [hr.cell (by omega)]
    rcases (by omega : mm = 0 ∨ mm = 1 ∨ mm = 2) with e | e | e <;> subst e <;> rfl
/-- an input is taken -/
theorem R6.take {nM L g cap : Nat} {w2 : World} {rB uB cB rr : Nat} {a : RunA} {pd : PD} {vc : Nat → Nat → Value} {cf : Nat → Nat} {pv : Value} {mm : Nat} {ps ps' u : Nat} {w w' : World} {x : X} {l : List Nat} (hM : nM ≤ 3) (hm : mm < nM) (hbs : BS nM L (.slice (some ⟨g, 0, none⟩) (nM + 2) cap) w2 pv x pd vc w)
    (b2 : x.vs 2 = i32s l) (b3 : ∀ u, u ∈ l → u < pd.nV ∧ pd.ins u = [] ∧ pd.node u < mm) (b4 : (l.map pd.node).Nodup) (b5 : l.length ≤ mm) (hps : ps' ≤ 1000) (b7 : x.rB = rB) (b8 : x.uB = uB) (b9 : CB x cB cf w) (b10 : x.fz rr) (b11 : w.rowIs rr 103 8 (rcell a))
    (hu : u ∈ pd.revs mm) {g2 c2 : Nat} (ho : w'.ownsRow 0 48 1 (.slice (some ⟨g2, 0, none⟩) (l.length + 1) c2) (l.length + 1) (i32s l ++ [.int .i32 (u : Int)])) (k : Kp (fun k => (x.ow 2).ownBlock = some k) w w') (hat : (x.ow 2).ownBlock = some g2 ∨ w.heap.size ≤ g2) :
    R6 nM L g cap w2 rB uB cB rr a pd vc cf pv (mm + 1) (.slice (some ⟨g2, 0, none⟩) (l.length + 1) c2) ps' w' := by
  have nf : ∀ j, x.fz j → ¬ ((x.ow 2).ownBlock = some j) := fun j hj e => (hbs.bp.sl.nf 2 j e).1 hj
  obtain ⟨u1, u2, u3⟩ := hbs.bl.rv mm hm u hu
  obtain ⟨d1, d2, d3, d4⟩ := b9
  refine ⟨_, l ++ [u], hbs.ins hM ho k hat, ?_, ?_, ?_, ?_, ?_, hps, b7, b8, ⟨d1, d2, d3, k.rowIs d4 (nf _ d1)⟩, b10, k.rowIs b11 (nf _ b10)⟩
  · dsimp only; rw [up_same]
  · dsimp only; rw [up_same, i32s_snoc]
  · intro v hv
    rcases List.mem_append.1 hv with hv | hv
    · obtain ⟨e1, e2, e3⟩ := b3 v hv
      exact ⟨e1, e2, by omega⟩
    · have : v = u := by simpa using hv
      subst this
      exact ⟨u1, u3, by omega⟩
  · rw [List.map_append, List.nodup_append]
    refine ⟨b4, by simp, ?_⟩
    intro n hn n' hn' e
    obtain ⟨v, hv, rfl⟩ := List.mem_map.1 hn
    have e2 : n' = pd.node u := by simpa using hn'
    have := (b3 v hv).2.2
    omega
  · rw [List.length_append]; simp; omega

theorem R5.of {nM L g cap : Nat} {w2 : World} {rB uB cB p n ps B : Nat} {l : List Nat} {pv : Value} {x x' : X} {pd : PD} {vc' : Nat → Nat → Value} {cf' : Nat → Nat} {w w3 : World} (h : BS nM L (.slice (some ⟨g, 0, none⟩) (nM + 2) cap) w2 pv x' (pd.addU n ps l) vc' w3) (hL : x.L = L)
    (a1 : pd.nV ≤ 9 + p) (a2 : ∀ n, (pd.revs n).length ≤ 3) (a3 : ∀ n, (pd.runs n).length ≤ p) (a6 : x.rB = rB) (a7 : x.uB = uB) (a8 : CB x cB cf' w) (a9 : ∀ j, cf' j ≤ p + 1) (hB : w.heap.size ≤ B)
    (f1 : ∀ k, x.fz k → x'.fz k) (f2 : x'.uB = x.uB ∧ x'.rB = x.rB ∧ x'.mB = x.mB ∧ x'.mp = x.mp) (f3 : x'.ow 2 = .slice none 0 0) (f4 : x'.vs 2 = []) (f5 : ∀ v, x'.rd v = true → x.rd v = true ∧ x'.rp v = x.rp v ∨ x'.rp v = B) (hrow : w3.rowIs cB 100 2 (fun j => .int .i64 ((cf' j : Nat) : Int))) :
    R5 nM L g cap w2 rB uB cB (p + 1) pv w3 := by
  obtain ⟨d1, d2, d3, d4⟩ := a8
  have hlt := d4.lt
  refine ⟨x', pd.addU n ps l, vc', cf', h, by show pd.nV + 1 ≤ _; omega, a2, fun m => ?_, f3, f4, f2.2.1.trans a6, f2.1.trans a7, ⟨f1 _ d1, ?_, fun v hv => ?_, hrow⟩, a9⟩
  · show (up pd.runs n (pd.runs n ++ [pd.nV]) m).length ≤ p + 1
    by_cases e : m = n
    · rw [e, up_same, List.length_append]
      have := a3 n
      simp; omega
    · rw [up_ne _ _ e]; have := a3 m; omega
  · rw [h.hL, f2.1, f2.2.1, f2.2.2.1, f2.2.2.2, ← hL]; exact d2
  · rcases f5 v hv with ⟨h1, h2⟩ | h1
    · rw [h2]; exact d3 v h1
    · rw [h1]; omega
end Go.Proofs.Ybulkctjg
