import Derived.Test.YbulkctjgRegion
namespace Go.Proofs.Ybulkctjg
open Go.RowKit
set_option linter.unusedVariables false

def aS : Value → Option Addr
  | .slice a _ _ => a
  | _ => none
def cS : Value → Nat
  | .slice _ _ c => c
  | _ => 0
def bS (v : Value) : Nat := v.ownBlock.getD 0
theorem owns_as {w : World} {b t s n : Nat} {v : Value} {xs : List Value} (h : w.ownsRow b t s v n xs) : v = .slice (aS v) n (cS v) ∧ (0 < n → aS v = some ⟨bS v, 0, none⟩) := by
  rcases h.2 with ⟨h1, h2⟩ | ⟨g, cap, cur, h1, _⟩
  · subst h1; subst h2; exact ⟨rfl, fun h => by omega⟩
  · subst h1; exact ⟨rfl, fun _ => rfl⟩
theorem owns_rd {w : World} {t : Nat} {v : Value} {xs : List Nat} {n : Nat} (h : w.ownsRow 0 t 1 v n (i32s xs)) : v = .slice (aS v) xs.length (cS v) ∧ Rd (view w.heap.size w) (aS v) xs := by
  have hl := h.1
  rw [i32s_length, Nat.mul_one] at hl
  obtain ⟨h1, h2⟩ := owns_as h
  rw [hl]
  refine ⟨h1, fun j hj => ?_⟩
  have ha := h2 (by omega)
  refine ⟨bS v, ha, ?_⟩
  rw [h1, ha] at h
  have hc := owns_cell h (i32s_get xs j (by omega))
  exact view_mk hc (World.block_lt_of_cell? _ _ hc)

def dOf (nM : Nat) (x : X) (pd : PD) : D := ⟨nM, pd.nV, pd.node, pd.ins, pd.pos, x.ctr, x.pas, pd.revs, pd.runs⟩
def bOf (x : X) : Bk := ⟨x.L, x.mB, bS (x.ow 0), x.rB, x.uB, bS (x.ow 1), cS (x.ow 0), cS (x.ow 1), x.rp, fun v => aS (x.ow (20 + v)), fun v => cS (x.ow (20 + v)), fun n => aS (x.ow (3 + n)), fun n => cS (x.ow (3 + n)), fun n => aS (x.ow (8 + n)), fun n => cS (x.ow (8 + n))⟩

theorem BS.ok {nM L : Nat} {nms : Value} {w2 : World} {pv : Value} {x : X} {pd : PD} {vc : Nat → Nat → Value} {w : World} (h : BS nM L nms w2 pv x pd vc w) (hM1 : 1 ≤ nM) (hM : nM ≤ 3) (hV : pd.nV ≤ 19) (hr : ∀ n, (pd.revs n).length ≤ 3) (hu : ∀ n, (pd.runs n).length ≤ 10) : (dOf nM x pd).Ok := by
  refine ⟨hM1, hM, hV, h.bl.nd, h.bl.is, h.bl.inn, h.bl.il, fun n hn u hu => (h.bl.rv n hn u hu).1, fun n _ => hr n, h.bl.ru, fun n _ _ => hu n, h.bl.po, fun v _ => h.bl.c v⟩

theorem BS.stat {nM L : Nat} {nms : Value} {w2 : World} {pv : Value} {x : X} {pd : PD} {vc : Nat → Nat → Value} {w : World} (h : BS nM L nms w2 pv x pd vc w) (hM : nM ≤ 3) : Stat (dOf nM x pd) (bOf x) (view w.heap.size w) := by
  have lc := h.bp.lc
  have vm : ∀ {a : Addr} {v : Value}, w.cell? a = some v → view w.heap.size w a = some v := fun hc => view_mk hc (World.block_lt_of_cell? _ _ hc)
  have o0 := h.bp.sl.own 0
  rw [h.bl.c0] at o0
  obtain ⟨f0, g0⟩ := owns_as o0
  have cell0 : ∀ v, v < pd.nV → ∀ j, j < 5 → view w.heap.size w ⟨bS (x.ow 0), v * 5 + j, none⟩ = some (vc v j) := by
    intro v hv j hj
    have ha := g0 (by omega)
    rw [f0, ha] at o0
    exact vm (owns_cell o0 (h.bl.v0 v hv j hj))
  refine ⟨vm lc.2.1, fun hpos => ?_, vm lc.2.2.2.2.1, vm lc.2.2.2.2.2.1, fun n hn => vm (h.bp.mat.cell hn), fun v hv => ?_, fun v hv hnd => ?_, fun v hv => ?_, fun n hn => ?_, fun n h1 h2 => ?_, fun v hv => ?_⟩
  · have e := vm lc.2.2.2.1
    rw [f0, g0 hpos] at e
    exact e
  · have := cell0 v hv 0 (by omega)
    rw [h.bl.a0 v hv] at this
    exact this
  · have := cell0 v hv 3 (by omega)
    obtain ⟨e1, e2, e3⟩ := h.bl.a3 v hv hnd
    obtain ⟨p1, p2, _⟩ := h.bp.rp v e2
    rw [e1] at this
    exact ⟨this, vm p1, vm p2⟩
  · have h4 := cell0 v hv 4 (by omega)
    rw [h.bl.a4 v hv] at h4
    have o := h.bp.sl.own (20 + v)
    rw [tyS_else (by omega) (by omega) (by omega), szS_else (by omega), h.bl.i v hv] at o
    obtain ⟨q1, q2⟩ := owns_rd o
    refine ⟨?_, q2⟩
    rw [q1] at h4
    exact h4
  · have hn : n < nM := hn
    have o := h.bp.sl.own (3 + n)
    rw [tyS_else (by omega) (by omega) (by omega), szS_else (by omega), h.bl.r n (by omega)] at o
    obtain ⟨q1, q2⟩ := owns_rd o
    refine ⟨?_, q2⟩
    have e := vm (h.bp.rv.cell (i := n) (by omega))
    rw [q1] at e
    exact e
  · have h2 : n < nM + 2 := h2
    have o := h.bp.sl.own (8 + n)
    rw [tyS_else (by omega) (by omega) (by omega), szS_else (by omega), h.bl.u n h2] at o
    obtain ⟨q1, q2⟩ := owns_rd o
    refine ⟨?_, q2⟩
    have e := vm (h.bp.uv.cell (i := n) h2)
    rw [q1] at e
    exact e
  · have hv : v < pd.nV := hv
    have o := h.bp.sl.own 1
    rw [h.bl.c1] at o
    obtain ⟨f1, g1⟩ := owns_as o
    rw [f1, g1 (by omega)] at o
    exact vm (owns_cell o (h.bl.v1 v hv))

/-- what build leaves -/
def BPost (nM : Nat) (w : World) (e : Ending) (w' : World) : Prop :=
  ∃ (d : D) (b : Bk) (y : Dy) (S mb nB cap : Nat), d.nM = nM ∧ d.Ok ∧ y.Ok S ∧ e = .returned (.tuple #[.pointer (some ⟨y.G, 0, none⟩), .int .i64 (nM : Int)]) ∧ Kp (fun _ => False) w w' ∧ w.heap.size ≤ S ∧
    GI d b y S (fun k => k < S ∨ k = y.tB ∨ k = y.yB) w' (.slice none 0 0) 0 (.slice none 0 0) (fun _ => .slice none 0 0) (fun _ => 0) [] [] ∧ w'.rowIs y.kB 33 (nM + 2) (fun _ => .slice none 0 0) ∧ w'.rowIs y.tB 48 (nM + 2) (fun _ => .int .i32 (-1)) ∧ w'.rowIs y.yB 3 (nM + 2) (fun _ => .int .i64 0) ∧
    view S w' ⟨b.L, 0, none⟩ = some (.slice (some ⟨nB, 0, none⟩) (nM + 2) cap) ∧ (∀ n, n < nM + 2 → view S w' ⟨nB, n, none⟩ = some (.string (nmS nM n))) ∧ view S w' ⟨b.L, 2, none⟩ = some (.map (some mb)) ∧ MapIs w' mb (nmS nM) (nM + 2) ∧ mb < S

/-- what region 59 and the last loop leave -/
def yOf (bl : Nat → Nat) : Dy := ⟨bl 15, bl 3, bl 5, bl 7, bl 9, bl 11, bl 13⟩
theorem J59.ok {L pb pc nV N : Nat} {a0 : Act} {w0 : World} {bl : Nat → Nat} {a : Act} {w : World} (h : J59 L pb pc nV N a0 w0 bl (fun _ => true) a w) : (yOf bl).Ok w0.heap.size := by
  have ne : ∀ i j, i ≠ j → isB i = true → isB j = true → bl i ≠ bl j := fun i j h1 h2 h3 => h.ne i j h1 h2 h3 rfl rfl
  refine ⟨?_, ?_⟩
  · simp only [Dy.fix, yOf, List.nodup_cons, List.mem_cons, List.not_mem_nil, or_false, not_or, List.nodup_nil, and_true, not_false_eq_true]
    exact ⟨⟨ne 15 3 (by omega) rfl rfl, ne 15 5 (by omega) rfl rfl, ne 15 7 (by omega) rfl rfl, ne 15 9 (by omega) rfl rfl, ne 15 11 (by omega) rfl rfl, ne 15 13 (by omega) rfl rfl⟩, ⟨ne 3 5 (by omega) rfl rfl, ne 3 7 (by omega) rfl rfl, ne 3 9 (by omega) rfl rfl, ne 3 11 (by omega) rfl rfl, ne 3 13 (by omega) rfl rfl⟩, ⟨ne 5 7 (by omega) rfl rfl, ne 5 9 (by omega) rfl rfl, ne 5 11 (by omega) rfl rfl, ne 5 13 (by omega) rfl rfl⟩, ⟨ne 7 9 (by omega) rfl rfl, ne 7 11 (by omega) rfl rfl, ne 7 13 (by omega) rfl rfl⟩, ⟨ne 9 11 (by omega) rfl rfl, ne 9 13 (by omega) rfl rfl⟩, ne 11 13 (by omega) rfl rfl⟩
  · intro k hk
    have r := fun i (hi : isM i = true) => (h.rw i hi rfl).2
    simp only [Dy.fix, yOf, List.mem_cons, List.not_mem_nil, or_false] at hk
    rcases hk with e | e | e | e | e | e | e <;> subst e
    · exact (h.bx rfl).2
    · exact r 3 rfl
    · exact r 5 rfl
    · exact r 7 rfl
    · exact r 9 rfl
    · exact r 11 rfl
    · exact r 13 rfl

theorem build_done {nM L g cap : Nat} {w w2 w1 wz we : World} {pv : Value} {x : X} {pd : PD} {vc : Nat → Nat → Value} {a0 a : Act} {pb pc : Nat} {bl : Nat → Nat} (h : BS nM L (.slice (some ⟨g, 0, none⟩) (nM + 2) cap) w2 pv x pd vc w1) (hM1 : 1 ≤ nM) (hM : nM ≤ 3) (hV : pd.nV ≤ 19) (hr : ∀ n, (pd.revs n).length ≤ 3) (hu : ∀ n, (pd.runs n).length ≤ 10)
    (hw : Kp (fun _ => False) w w2) (hpv : pv = .slice (some ⟨pb, 0, none⟩) pd.nV pc) (j : J59 L pb pc pd.nV (nM + 2) a0 w1 bl (fun _ => true) a wz) (k : Kp (fun k => k = bl 7 ∨ k = bl 11) wz we) (f' : we.rowIs (bl 7) 48 (nM + 2) (fun _ => .int .i32 (-1))) (t' : we.rowIs (bl 11) 48 (nM + 2) (fun _ => .int .i32 (-1))) :
    BPost nM w (.returned (.tuple #[.pointer (some ⟨bl 15, 0, none⟩), .int .i64 (nM : Int)])) we := by
  have hy := j.ok
  have ne : ∀ i j', i ≠ j' → isB i = true → isB j' = true → bl i ≠ bl j' := fun i j' h1 h2 h3 => j.ne i j' h1 h2 h3 rfl rfl
  have ge : ∀ k, (k = bl 7 ∨ k = bl 11) → w1.heap.size ≤ k := by
    rintro k (e | e)
    · rw [e]; exact (j.rw 7 rfl rfl).2
    · rw [e]; exact (j.rw 11 rfl rfl).2
  have k1 : Kp (fun k => k = bl 7 ∨ k = bl 11) w1 we := (j.kp.mono (fun _ _ h => h.elim)).trans k
  have hview : view w1.heap.size we = view w1.heap.size w1 := k1.view (Nat.le_refl _) ge
  have k1' : Kp (fun _ => False) w1 we := k1.mono (fun i hi e => by have := ge i e; omega)
  have hwe := k1.size
  have hst : Stat (dOf nM x pd) (bOf x) (view w1.heap.size we) := by rw [hview]; exact h.stat hM
  have o1 := h.bp.sl.own 1
  rw [h.pv] at o1
  have hb1 : bS (x.ow 1) = pb ∧ cS (x.ow 1) = pc := by rw [h.pv, hpv]; exact ⟨rfl, rfl⟩
  have nb : ∀ i, isB i = true → i ≠ 7 → i ≠ 11 → ¬ (bl i = bl 7 ∨ bl i = bl 11) := by
    rintro i hi h7 h11 (e | e)
    · exact ne i 7 h7 hi rfl e
    · exact ne i 11 h11 hi rfl e
  have lc := h.bp.lc
  have vm : ∀ {a : Addr} {v : Value}, w1.cell? a = some v → view w1.heap.size we a = some v := fun hc => by rw [hview]; exact view_mk hc (World.block_lt_of_cell? _ _ hc)
  refine ⟨dOf nM x pd, bOf x, yOf bl, w1.heap.size, x.mp, g, cap, rfl, h.ok hM1 hM hV hr hu, hy, rfl, (hw.trans h.kp).trans k1', Nat.le_trans hw.size h.kp.size, ⟨hst, hwe, ?_, ?_, f', ?_, OV.nil _ _, OV.nil _ _, fun k e => (by cases e), fun k e => (by cases e), fun v hv => .inl rfl, ?_, ?_, ?_⟩, k.rowIs (j.rw 5 rfl rfl).1 (nb 5 rfl (by omega) (by omega)), t', k.rowIs (j.rw 13 rfl rfl).1 (nb 13 rfl (by omega) (by omega)), ?_, fun n hn => ?_, ?_, k1'.mapIs h.bp.map id, (h.bp.sl.fl _ h.bp.f.2.2.2.2).1⟩
  · have e := (k.block (bl 15) (Array.getElem?_eq_some_iff.1 (j.bx rfl).1).1 (nb 15 rfl (by omega) (by omega))).trans (j.bx rfl).1
    show we.heap[bl 15]? = some (.cells (gC (dOf nM x pd) (bOf x) (yOf bl) (.slice none 0 0) ((0 : Nat) : Int) (.slice none 0 0)) 36 (0, 0))
    rw [e]
    unfold gC g59 bOf yOf dOf
    dsimp only
    rw [hb1.1, hb1.2, h.hL]
    rfl
  · exact k.rowIs (j.rw 3 rfl rfl).1 (nb 3 rfl (by omega) (by omega))
  · exact k.rowIs (j.rw 9 rfl rfl).1 (nb 9 rfl (by omega) (by omega))
  · intro i hi
    have r := fun i (hi : isM i = true) => (j.rw i hi rfl).1.lt
    have hks := k.size
    simp only [Dy.fix, yOf, List.mem_cons, List.not_mem_nil, or_false] at hi
    rcases hi with e | e | e | e | e | e | e <;> subst e
    · have := (Array.getElem?_eq_some_iff.1 (j.bx rfl).1).1; omega
    · have := r 3 rfl; omega
    · have := r 5 rfl; omega
    · have := r 7 rfl; omega
    · have := r 9 rfl; omega
    · have := r 11 rfl; omega
    · have := r 13 rfl; omega
  · have r := fun i (hi : isM i = true) => (j.rw i hi rfl).1.lt
    have hks := k.size
    rintro i (e | e | e)
    · omega
    · have e : i = bl 11 := e
      have := r 11 rfl; omega
    · have e : i = bl 13 := e
      have := r 13 rfl; omega
  · rintro i (e | e | e)
    · exact .inl (fun hm => by have := hy.ge i hm; omega)
    · exact .inr (.inl e)
    · exact .inr (.inr e)
  · have e := vm lc.1
    rw [h.n1] at e
    exact e
  · have o := h.bp.sl.own 13
    rw [h.n1, h.n2, h.n3] at o
    exact vm (owns_cell o (names_get nM n hM hn))
  · exact vm lc.2.2.1
end Go.Proofs.Ybulkctjg
