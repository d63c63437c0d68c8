import Derived.Test.YbulkctjgRuled
namespace Go.Proofs.Ybulkctjg
open Go.RowKit
set_option linter.unusedVariables false

section
variable {d : D} {b : Bk} {y : Dy} {S : Nat} {pr pr' : Nat → Prop} {w w' : World} {tv : Value} {c : Nat} {sv : Value} {rv : Nat → Value} {sn : Nat → Int} {ps : List (Nat × Nat)} {stk : List Nat}

theorem GI.pr_fix (h : GI d b y S pr w tv c sv rv sn ps stk) (hy : y.Ok S) {k : Nat} (hk : pr k) : k ≠ y.G ∧ k ≠ y.xB ∧ k ≠ y.fB ∧ k ≠ y.sB := by
  obtain ⟨m1, m2, m3, m4, m5, m6, m7⟩ := mem_fix y
  obtain ⟨a1, a2, a3, a4, a5, a6, a7, a8, a9, a10, a11, a12, a13, a14, a15, a16, a17, a18, a19, a20, a21⟩ := hy.ne
  rcases h.pf k hk with h1 | h1 | h1
  · exact ⟨fun e => h1 (e ▸ m1), fun e => h1 (e ▸ m2), fun e => h1 (e ▸ m4), fun e => h1 (e ▸ m5)⟩
  · subst h1; exact ⟨fun e => a5 e.symm, fun e => a10 e.symm, fun e => a17 e.symm, fun e => a19 e.symm⟩
  · subst h1; exact ⟨fun e => a6 e.symm, fun e => a11 e.symm, fun e => a18 e.symm, fun e => a20 e.symm⟩

theorem GI.pr_rm (h : GI d b y S pr w tv c sv rv sn ps stk) (hy : y.Ok S) {k : Nat} (hk : pr k) : ¬ RM y tv sv k := by
  obtain ⟨a1, a2, a3, a4⟩ := h.pr_fix hy hk
  rintro (e | e | e | e | e | e)
  · exact a1 e
  · exact a2 e
  · exact a3 e
  · exact a4 e
  · exact (h.tb k e).2.2.1 hk
  · exact (h.kb k e).2.2 hk

theorem GI.kpr {M : Nat → Prop} (h : GI d b y S pr w tv c sv rv sn ps stk) (hy : y.Ok S) (hM : ∀ k, M k → pr k) (hp : ∀ k, M k → S ≤ k) (k0 : Kp M w w') : GI d b y S (fun k => pr k ∨ (w.heap.size ≤ k ∧ k < w'.heap.size)) w' tv c sv rv sn ps stk := by
  have k : Kp pr w w' := k0.mono (fun i _ e => hM i e)
  refine ⟨?_, Nat.le_trans h.hS k.size, k.gis h.g (fun e => (h.pr_fix hy e).1 rfl), k.rowIs h.x (fun e => (h.pr_fix hy e).2.1 rfl), k.rowIs h.f (fun e => (h.pr_fix hy e).2.2.1 rfl), k.rowIs h.s (fun e => (h.pr_fix hy e).2.2.2 rfl), k.ov h.t (fun b hb => (h.tb b hb).2.2.1), k.ov h.k (fun b hb => (h.kb b hb).2.2), ?_, ?_, ?_, fun k' hk => Nat.lt_of_lt_of_le (h.fx k' hk) k.size, ?_, ?_⟩
  · rw [k0.view h.hS hp]; exact h.st
  · intro j e
    obtain ⟨h1, h2, h3, h4⟩ := h.tb j e
    refine ⟨h1, h2, ?_, h4⟩
    rintro (e2 | e2)
    · exact h3 e2
    · have := h.t.lt j e; omega
  · intro j e
    obtain ⟨h1, h2, h3⟩ := h.kb j e
    refine ⟨h1, h2, ?_⟩
    rintro (e2 | e2)
    · exact h3 e2
    · have := h.k.lt j e; omega
  · intro v hv
    rcases h.ca v hv with h1 | ⟨cb, rl, h1, h2, h3, h4, h5, h6, h7, h8, h9⟩
    · exact .inl h1
    · refine .inr ⟨cb, rl, h1, h2, h3.kp k h7, h4, h5, Nat.lt_of_lt_of_le h6 k.size, ?_, h8, h9⟩
      rintro (e2 | e2)
      · exact h7 e2
      · omega
  · rintro j (e | e)
    · exact Nat.lt_of_lt_of_le (h.pl j e) k.size
    · exact e.2
  · rintro j (e | e)
    · exact h.pf j e
    · exact .inl (fun hm => by have := h.fx j hm; omega)

theorem GI.weaken (h : GI d b y S pr w tv c sv rv sn ps stk) (hp : ∀ k, pr' k → pr k) : GI d b y S pr' w tv c sv rv sn ps stk := by
  refine ⟨h.st, h.hS, h.g, h.x, h.f, h.s, h.t, h.k, fun k e => ?_, fun k e => ?_, fun v hv => ?_, h.fx, fun k e => h.pl k (hp k e), fun k e => h.pf k (hp k e)⟩
  · obtain ⟨h1, h2, h3, h4⟩ := h.tb k e
    exact ⟨h1, h2, fun e => h3 (hp k e), h4⟩
  · obtain ⟨h1, h2, h3⟩ := h.kb k e
    exact ⟨h1, h2, fun e => h3 (hp k e)⟩
  · rcases h.ca v hv with h1 | ⟨cb, rl, h1, h2, h3, h4, h5, h6, h7, h8, h9⟩
    · exact .inl h1
    · exact .inr ⟨cb, rl, h1, h2, h3, h4, h5, h6, fun e => h7 (hp _ e), h8, h9⟩
end

/-- the search's world -/
structure FW (d : D) (b : Bk) (y : Dy) (S : Nat) (q : Sq) (C : Nat → List Nat) (cb cc : Nat → Nat) (sf pr : Nat → Prop) (w : World) (setv : Value) (pf st by_ : Nat → Int) (sl : List Nat) : Prop where
  gi : ∃ tv c sv rv sn, GI d b y S pr w tv c sv rv sn [] [] ∧ Bd d c rv sn
  hq : Qis d y q setv w
  os : OV w 96 setv sl
  p : w.rowIs q.pB 48 q.k (fun j => .int .i32 (pf j))
  t : w.rowIs y.tB 48 (d.nM + 2) (fun n => .int .i32 (st n))
  yy : w.rowIs y.yB 3 (d.nM + 2) (fun n => .int .i64 (by_ n))
  cs : ∀ j, j < q.k → w.cell? ⟨q.cB, j, none⟩ = some (.slice (some ⟨cb j, 0, none⟩) (C j).length (cc j)) ∧ Own w 48 (cb j) (C j).length (cc j) (C j)
  sp : ∀ k, sf k → pr k
  qs : S ≤ q.Q ∧ S ≤ q.pB ∧ ∀ k, setv.ownBlock = some k → S ≤ k
  pq : pr q.Q ∧ pr q.pB ∧ pr y.tB ∧ pr y.yB ∧ (∀ k, setv.ownBlock = some k → pr k)
  cf : sf q.cB ∧ ∀ j, j < q.k → sf (cb j)
  nf : ¬ sf q.Q ∧ ¬ sf q.pB ∧ ¬ sf y.tB ∧ ¬ sf y.yB ∧ (∀ k, setv.ownBlock = some k → ¬ sf k)
  ne : q.Q ≠ q.pB ∧ q.Q ≠ y.tB ∧ q.Q ≠ y.yB ∧ q.pB ≠ y.tB ∧ q.pB ≠ y.yB ∧ y.tB ≠ y.yB
  sne : ∀ k, setv.ownBlock = some k → k ≠ q.Q ∧ k ≠ q.pB ∧ k ≠ y.tB ∧ k ≠ y.yB

/-- what the search itself may turn -/
def SM (y : Dy) (q : Sq) (setv : Value) (k : Nat) : Prop := k = y.tB ∨ k = y.yB ∨ k = q.Q ∨ k = q.pB ∨ setv.ownBlock = some k

section
variable {d : D} {b : Bk} {y : Dy} {S : Nat} {q : Sq} {C : Nat → List Nat} {cb cc : Nat → Nat} {sf sf1 pr pr1 : Nat → Prop} {w w' : World} {setv setv' : Value} {pf st by_ pf' st' by' : Nat → Int} {sl sl' : List Nat}

theorem FW.pl (h : FW d b y S q C cb cc sf pr w setv pf st by_ sl) : ∀ k, pr k → k < w.heap.size := by
  obtain ⟨tv, c, sv, rv, sn, g, hb⟩ := h.gi
  exact g.pl
theorem FW.sm_pr (h : FW d b y S q C cb cc sf pr w setv pf st by_ sl) : ∀ k, SM y q setv k → pr k := by
  obtain ⟨h1, h2, h3, h4, h5⟩ := h.pq
  rintro k (e | e | e | e | e)
  · rw [e]; exact h3
  · rw [e]; exact h4
  · rw [e]; exact h1
  · rw [e]; exact h2
  · exact h5 k e
theorem FW.sm_S (h : FW d b y S q C cb cc sf pr w setv pf st by_ sl) (hy : y.Ok S) : ∀ k, SM y q setv k → S ≤ k := by
  obtain ⟨h1, h2, h3⟩ := h.qs
  have m := mem_fix y
  rintro k (e | e | e | e | e)
  · rw [e]; exact hy.ge _ m.2.2.2.2.2.1
  · rw [e]; exact hy.ge _ m.2.2.2.2.2.2
  · rw [e]; exact h1
  · rw [e]; exact h2
  · exact h3 k e
theorem FW.sm_sf (h : FW d b y S q C cb cc sf pr w setv pf st by_ sl) : ∀ k, SM y q setv k → ¬ sf k := by
  obtain ⟨h1, h2, h3, h4, h5⟩ := h.nf
  rintro k (e | e | e | e | e)
  · rw [e]; exact h3
  · rw [e]; exact h4
  · rw [e]; exact h1
  · rw [e]; exact h2
  · exact h5 k e

theorem FW.upd (h : FW d b y S q C cb cc sf pr w setv pf st by_ sl) (hy : y.Ok S) (k : Kp (SM y q setv) w w') (hp1 : ∀ k, pr k → pr1 k) (hp2 : ∀ k, pr1 k → pr k ∨ (w.heap.size ≤ k ∧ k < w'.heap.size)) (hs : ∀ k, setv'.ownBlock = some k → setv.ownBlock = some k ∨ (w.heap.size ≤ k ∧ pr1 k))
    (q' : Qis d y q setv' w') (o' : OV w' 96 setv' sl') (p' : w'.rowIs q.pB 48 q.k (fun j => .int .i32 (pf' j))) (t' : w'.rowIs y.tB 48 (d.nM + 2) (fun n => .int .i32 (st' n))) (y' : w'.rowIs y.yB 3 (d.nM + 2) (fun n => .int .i64 (by' n))) :
    FW d b y S q C cb cc sf pr1 w' setv' pf' st' by' sl' := by
  have hpl := h.pl
  obtain ⟨tv, c, sv, rv, sn, g, hb⟩ := h.gi
  obtain ⟨a1, a2, a3, a4, a5⟩ := h.pq
  obtain ⟨n1, n2, n3, n4, n5⟩ := h.nf
  refine ⟨⟨tv, c, sv, rv, sn, (g.kpr hy h.sm_pr (h.sm_S hy) k).weaken hp2, hb⟩, q', o', p', t', y', ?_, fun k e => hp1 k (h.sp k e), ⟨h.qs.1, h.qs.2.1, ?_⟩, ⟨hp1 _ a1, hp1 _ a2, hp1 _ a3, hp1 _ a4, ?_⟩, h.cf, ⟨n1, n2, n3, n4, ?_⟩, h.ne, ?_⟩
  · intro j hj
    obtain ⟨c1, c2⟩ := h.cs j hj
    exact ⟨k.cell c1 (fun e => h.sm_sf _ e h.cf.1), k.own c2 (fun e => h.sm_sf _ e (h.cf.2 j hj))⟩
  · intro j e
    rcases hs j e with e | e
    · exact h.qs.2.2 j e
    · have := g.hS; omega
  · intro j e
    rcases hs j e with e | e
    · exact hp1 j (a5 j e)
    · exact e.2
  · intro j e e2
    rcases hs j e with e | e
    · exact n5 j e e2
    · have := hpl j (h.sp j e2); omega
  · intro j e
    rcases hs j e with e | e
    · exact h.sne j e
    · have := hpl _ a1; have := hpl _ a2; have := hpl _ a3; have := hpl _ a4
      exact ⟨by omega, by omega, by omega, by omega⟩

theorem FW.kp0 (h : FW d b y S q C cb cc sf pr w setv pf st by_ sl) (hy : y.Ok S) (k : Kp (fun _ => False) w w') : FW d b y S q C cb cc sf pr w' setv pf st by_ sl :=
  h.upd hy (k.mono (fun _ _ h => h.elim)) (fun _ h => h) (fun _ h => .inl h) (fun _ h => .inl h) (k.qis h.hq id) (k.ov h.os (fun _ _ => id)) (k.rowIs h.p id) (k.rowIs h.t id) (k.rowIs h.yy id)
theorem FW.drew (h : FW d b y S q C cb cc sf pr w setv pf st by_ sl) (hy : y.Ok S) : FW d b y S q C cb cc sf pr w.drew setv pf st by_ sl := h.kp0 hy ((Kp.refl _ _).drew)
theorem FW.drewN (h : FW d b y S q C cb cc sf pr w setv pf st by_ sl) (hy : y.Ok S) (n : Nat) : FW d b y S q C cb cc sf pr (w.drewN n) setv pf st by_ sl := h.kp0 hy ((Kp.refl _ _).drewN n)

/-- s.state[n] = x -/
theorem FW.setT (h : FW d b y S q C cb cc sf pr w setv pf st by_ sl) (hy : y.Ok S) (n : Nat) (x : Int) : FW d b y S q C cb cc sf pr (w.setCell ⟨y.tB, n, none⟩ (.int .i32 x)) setv pf (Plain.upd st n x) by_ sl := by
  have kp := Kp.set1 w y.tB n (.int .i32 x)
  obtain ⟨e1, e2, e3, e4, e5, e6⟩ := h.ne
  refine h.upd hy (kp.mono (fun _ _ e => .inl e)) (fun _ h => h) (fun _ h => .inl h) (fun _ h => .inl h) (kp.qis h.hq e2) (kp.ov h.os (fun b hb e => (h.sne b hb).2.2.1 e)) (kp.rowIs h.p e4) ?_ (kp.rowIs h.yy (fun e => e6 e.symm))
  refine (h.t.set n _).congr ?_
  intro i hi
  unfold Plain.upd
  split <;> rfl
/-- s.by[n] = x -/
theorem FW.setY (h : FW d b y S q C cb cc sf pr w setv pf st by_ sl) (hy : y.Ok S) (n : Nat) (x : Int) : FW d b y S q C cb cc sf pr (w.setCell ⟨y.yB, n, none⟩ (.int .i64 x)) setv pf st (Plain.upd by_ n x) sl := by
  have kp := Kp.set1 w y.yB n (.int .i64 x)
  obtain ⟨e1, e2, e3, e4, e5, e6⟩ := h.ne
  refine h.upd hy (kp.mono (fun _ _ e => .inr (.inl e))) (fun _ h => h) (fun _ h => .inl h) (fun _ h => .inl h) (kp.qis h.hq e3) (kp.ov h.os (fun b hb e => (h.sne b hb).2.2.2 e)) (kp.rowIs h.p e5) (kp.rowIs h.t e6) ?_
  refine (h.yy.set n _).congr ?_
  intro i hi
  unfold Plain.upd
  split <;> rfl
/-- s.picks[n] = x -/
theorem FW.setP (h : FW d b y S q C cb cc sf pr w setv pf st by_ sl) (hy : y.Ok S) (n : Nat) (x : Int) : FW d b y S q C cb cc sf pr (w.setCell ⟨q.pB, n, none⟩ (.int .i32 x)) setv (Plain.upd pf n x) st by_ sl := by
  have kp := Kp.set1 w q.pB n (.int .i32 x)
  obtain ⟨e1, e2, e3, e4, e5, e6⟩ := h.ne
  refine h.upd hy (kp.mono (fun _ _ e => .inr (.inr (.inr (.inl e))))) (fun _ h => h) (fun _ h => .inl h) (fun _ h => .inl h) (kp.qis h.hq e1) (kp.ov h.os (fun b hb e => (h.sne b hb).2.1 e)) ?_ (kp.rowIs h.t (fun e => e4 e.symm)) (kp.rowIs h.yy (fun e => e5 e.symm))
  refine (h.p.set n _).congr ?_
  intro i hi
  unfold Plain.upd
  split <;> rfl
/-- s.set = v', a slice of the world at hand -/
theorem FW.setS (h : FW d b y S q C cb cc sf pr w setv pf st by_ sl) (hy : y.Ok S) (kp0 : Kp (fun k => setv.ownBlock = some k) w w') (ho : OV w' 96 setv' sl') (hp1 : ∀ k, pr k → pr1 k) (hp2 : ∀ k, pr1 k → pr k ∨ (w.heap.size ≤ k ∧ k < w'.heap.size)) (hv : ∀ k, setv'.ownBlock = some k → setv.ownBlock = some k ∨ (w.heap.size ≤ k ∧ pr1 k)) :
    FW d b y S q C cb cc sf pr1 (w'.setCell ⟨q.Q, 5, none⟩ setv') setv' pf st by_ sl' := by
  have kp1 := Kp.set1 w' q.Q 5 setv'
  obtain ⟨e1, e2, e3, e4, e5, e6⟩ := h.ne
  have hQ := h.hq.lt
  refine h.upd hy ((kp0.mono (fun _ _ e => .inr (.inr (.inr (.inr e))))).setCell (fun _ => .inr (.inr (.inl rfl))) _) hp1 ?_ hv ((kp0.qis h.hq (fun e => (h.sne _ e).1 rfl)).set5 _) (kp1.ov ho ?_) (kp1.rowIs (kp0.rowIs h.p (fun e => (h.sne _ e).2.1 rfl)) (fun e => e1 e.symm)) (kp1.rowIs (kp0.rowIs h.t (fun e => (h.sne _ e).2.2.1 rfl)) (fun e => e2 e.symm)) (kp1.rowIs (kp0.rowIs h.yy (fun e => (h.sne _ e).2.2.2 rfl)) (fun e => e3 e.symm))
  · intro k e
    rw [show (w'.setCell ⟨q.Q, 5, none⟩ setv').heap.size = w'.heap.size from Deep.nblk_setCell ..]
    exact hp2 k e
  · intro k hk e
    rcases hv k hk with h1 | h1
    · exact (h.sne k h1).1 e
    · omega
/-- a block of the caller's turns -/
theorem FW.blame {B : Nat} (h : FW d b y S q C cb cc sf pr w setv pf st by_ sl) (hy : y.Ok S) (hB : sf B) (hBS : S ≤ B) (hne : B ≠ q.cB ∧ ∀ j, j < q.k → B ≠ cb j) (k : Kp (fun k => k = B) w w') : FW d b y S q C cb cc sf pr w' setv pf st by_ sl := by
  obtain ⟨tv, c, sv, rv, sn, g, hb⟩ := h.gi
  obtain ⟨n1, n2, n3, n4, n5⟩ := h.nf
  have hnb : ∀ i, ¬ sf i → ¬ (i = B) := fun i hi e => hi (e ▸ hB)
  refine ⟨⟨tv, c, sv, rv, sn, (g.kpr hy (fun i e => by rw [e]; exact h.sp B hB) (fun i e => by rw [e]; exact hBS) k).weaken (fun i e => .inl e), hb⟩, k.qis h.hq (hnb _ n1), k.ov h.os (fun i hi => hnb i (n5 i hi)), k.rowIs h.p (hnb _ n2), k.rowIs h.t (hnb _ n3), k.rowIs h.yy (hnb _ n4), ?_, h.sp, h.qs, h.pq, h.cf, h.nf, h.ne, h.sne⟩
  intro j hj
  obtain ⟨c1, c2⟩ := h.cs j hj
  exact ⟨k.cell c1 (fun e => hne.1 e.symm), k.own c2 (fun e => hne.2 j hj e.symm)⟩
/-- a new block of the caller's -/
theorem FW.more (h : FW d b y S q C cb cc sf pr w setv pf st by_ sl) (hy : y.Ok S) (o : Obj) : FW d b y S q C cb cc (fun k => sf k ∨ k = w.heap.size) (fun k => pr k ∨ k = w.heap.size) (w.alloc o) setv pf st by_ sl := by
  have hpl := h.pl
  have h1 := h.kp0 hy ((Kp.refl _ w).alloc o)
  have ka : Kp (fun _ => False) w (w.alloc o) := (Kp.refl _ w).alloc o
  obtain ⟨tv, c, sv, rv, sn, g, hb⟩ := h.gi
  obtain ⟨a1, a2, a3, a4, a5⟩ := h.pq
  obtain ⟨n1, n2, n3, n4, n5⟩ := h.nf
  have hsz : (w.alloc o).heap.size = w.heap.size + 1 := by simp
  refine ⟨⟨tv, c, sv, rv, sn, (g.kpr hy (fun i e => e.elim) (fun i e => e.elim) ka).weaken (fun i e => ?_), hb⟩, h1.hq, h1.os, h1.p, h1.t, h1.yy, h1.cs, ?_, h.qs, ⟨.inl a1, .inl a2, .inl a3, .inl a4, fun k e => .inl (a5 k e)⟩, ⟨.inl h.cf.1, fun j hj => .inl (h.cf.2 j hj)⟩, ⟨?_, ?_, ?_, ?_, ?_⟩, h.ne, h.sne⟩
  · rcases e with e | e
    · exact .inl e
    · exact .inr (by omega)
  · rintro k (e | e)
    · exact .inl (h.sp k e)
    · exact .inr e
  · rintro (e | e)
    · exact n1 e
    · have := hpl _ a1; omega
  · rintro (e | e)
    · exact n2 e
    · have := hpl _ a2; omega
  · rintro (e | e)
    · exact n3 e
    · have := hpl _ a3; omega
  · rintro (e | e)
    · exact n4 e
    · have := hpl _ a4; omega
  · intro k hk
    rintro (e | e)
    · exact n5 k hk e
    · have := hpl _ (a5 k hk); omega
theorem FW.less (h : FW d b y S q C cb cc sf1 pr w setv pf st by_ sl) (hs : ∀ k, sf k → sf1 k) (hc : sf q.cB ∧ ∀ j, j < q.k → sf (cb j)) : FW d b y S q C cb cc sf pr w setv pf st by_ sl := by
  obtain ⟨n1, n2, n3, n4, n5⟩ := h.nf
  exact ⟨h.gi, h.hq, h.os, h.p, h.t, h.yy, h.cs, fun k e => h.sp k (hs k e), h.qs, h.pq, hc, ⟨fun e => n1 (hs _ e), fun e => n2 (hs _ e), fun e => n3 (hs _ e), fun e => n4 (hs _ e), fun k hk e => n5 k hk (hs _ e)⟩, h.ne, h.sne⟩

/-- restsOn in the search's world -/
def RsPost (d : D) (b : Bk) (y : Dy) (S : Nat) (q : Sq) (C : Nat → List Nat) (cb cc : Nat → Nat) (sf pr : Nat → Prop) (w : World) (setv : Value) (pf st by_ : Nat → Int) (sl : List Nat) (v : Nat) (e : Ending) (w' : World) : Prop :=
  ∃ cb0 rl, e = .returned (.slice (some ⟨cb0, 0, none⟩) rl.length rl.length) ∧ rl.Perm (rest d v) ∧ RdP w' cb0 rl ∧ cb0 < w'.heap.size ∧ ¬ pr cb0 ∧ FW d b y S q C cb cc sf pr w' setv pf st by_ sl ∧ Kp (fun k => ¬ pr k) w w'
theorem FW.rests (h : FW d b y S q C cb cc sf pr w setv pf st by_ sl) (hok : d.Ok) (hy : y.Ok S) {v : Nat} (hv : v < d.nV) :
    Calls Yba.prog 37 #[.pointer (some ⟨y.G, 0, none⟩), .int .i32 v] w fun e w' => RsPost d b y S q C cb cc sf pr w setv pf st by_ sl v e w' := by
  obtain ⟨tv, c, sv, rv, sn, g, hb⟩ := h.gi
  refine (restsOn_walk d b y S pr v w tv c sv rv sn hok hy hv g hb).mono ?_
  rintro e w' ⟨cb0, rl, tv', c', sv', rv', sn', h1, h2, h3, h4, h5, h6, h7, h8, h9, g', b', k, _, _⟩
  have kk : Kp (fun k => ¬ pr k) w w' := k.mono (fun i _ e hp => g.pr_rm hy hp e)
  have nn : ∀ i, pr i → ¬ ¬ pr i := fun i hi h => h hi
  obtain ⟨a1, a2, a3, a4, a5⟩ := h.pq
  refine ⟨cb0, rl, h1, h2, h3, h6, h7, ⟨⟨tv', c', sv', rv', sn', g', b'⟩, kk.qis h.hq (nn _ a1), kk.ov h.os (fun i hi => nn _ (a5 i hi)), kk.rowIs h.p (nn _ a2), kk.rowIs h.t (nn _ a3), kk.rowIs h.yy (nn _ a4), ?_, h.sp, h.qs, h.pq, h.cf, h.nf, h.ne, h.sne⟩, kk⟩
  intro j hj
  obtain ⟨c1, c2⟩ := h.cs j hj
  exact ⟨kk.cell c1 (nn _ (h.sp _ h.cf.1)), kk.own c2 (nn _ (h.sp _ (h.cf.2 j hj)))⟩
end

/-! ### what the search knows -/
structure FL (d : D) (C : Nat → List Nat) (i : Nat) (ix : Nat → Nat) (pf st by_ : Nat → Int) (sl : List Nat) : Prop where
  ok : Plain.StOk (rest d) i (Plain.val C ix) st by_
  vl : ∀ j, j < i → ix j < (C j).length
  pf : ∀ j, j < i → pf j = ((Plain.val C ix j : Nat) : Int)
  mem : ∀ n, st n ≠ -1 → n ∈ sl
  ln : sl.length ≤ 4 * i
  lt : ∀ n, n ∈ sl → n < d.nM + 2

section
variable {d : D} {C : Nat → List Nat} {i : Nat} {ix : Nat → Nat} {pf pf' st by_ by' : Nat → Int} {sl : List Nat}
theorem FL.byc (h : FL d C i ix pf st by_ sl) (hb : ∀ n, st n ≠ -1 → by' n = by_ n) (hp : ∀ j, j < i → pf' j = pf j) : FL d C i ix pf' st by' sl := by
  refine ⟨⟨h.ok.has, ?_⟩, h.vl, fun j hj => by rw [hp j hj]; exact h.pf j hj, h.mem, h.ln, h.lt⟩
  intro n hn
  rw [hb n hn]
  exact h.ok.from_ n hn
theorem FL.ge (h : FL d C i ix pf st by_ sl) : ∀ n, -1 ≤ st n := by
  intro n
  by_cases e : st n = -1
  · omega
  · obtain ⟨j, x, _, _, h1, _⟩ := h.ok.from_ n e
    omega
theorem FL.by0 (h : FL d C i ix pf st by_ sl) : ∀ n, n < d.nM + 2 → st n ≠ -1 → 0 ≤ by_ n := by
  intro n _ e
  obtain ⟨j, x, _, h1, _⟩ := h.ok.from_ n e
  omega

/-- v is laid at i -/
theorem FL.lay (h : FL d C i ix pf st by_ sl) (hok : d.Ok) {p : Nat} (hp : p < (C i).length) {v : Nat} (hv : (C i).getD p 0 = v) (hvV : v < d.nV) {rl : List (Nat × Nat)} (hperm : rl.Perm (rest d v)) (hfit : ∀ n x, (n, x) ∈ rl → st n = -1 ∨ st n = (x : Int)) :
    ∃ m, (rl.foldl (Plain.lay i) (st, by_, sl)).2.2 = sl ++ m ∧ (∀ n, n ∈ m → st n = -1) ∧ (∀ n, (rl.foldl (Plain.lay i) (st, by_, sl)).1 n ≠ st n → n ∈ m) ∧ (∀ n, st n ≠ -1 → (rl.foldl (Plain.lay i) (st, by_, sl)).1 n = st n ∧ (rl.foldl (Plain.lay i) (st, by_, sl)).2.1 n = by_ n) ∧
      FL d C (i + 1) (fun j => if j = i then p else ix j) (Plain.upd pf i v) (rl.foldl (Plain.lay i) (st, by_, sl)).1 (rl.foldl (Plain.lay i) (st, by_, sl)).2.1 (rl.foldl (Plain.lay i) (st, by_, sl)).2.2 := by
  have hnd : (rl.map (·.1)).Nodup := (hperm.map (·.1)).nodup_iff.2 (rest_nodup hok hvV)
  obtain ⟨a1, a2, a3, m, a4, a5, a6, a7⟩ := Plain.lay_all i rl st by_ sl hfit hnd
  have hvo : ∀ j, j < i → Plain.val C (fun j => if j = i then p else ix j) j = Plain.val C ix j := by
    intro j hj
    unfold Plain.val
    show (C j).getD (if j = i then p else ix j) 0 = _
    rw [if_neg (by omega)]
  have hvi : Plain.val C (fun j => if j = i then p else ix j) i = v := by
    unfold Plain.val
    show (C i).getD (if i = i then p else ix i) 0 = _
    rw [if_pos rfl, hv]
  refine ⟨m, a4, fun n hn => (a6 n hn).1, a7, a2, ⟨⟨?_, ?_⟩, ?_, ?_, ?_, ?_, ?_⟩⟩
  · intro j hj n x hx
    by_cases e : j = i
    · rw [e, hvi] at hx
      exact a1 n x (hperm.mem_iff.2 hx)
    · rw [hvo j (by omega)] at hx
      have h1 := h.ok.has j (by omega) n x hx
      rw [(a2 n (by omega)).1, h1]
  · intro n hn
    by_cases e : st n = -1
    · obtain ⟨x, h1, h2, h3⟩ := a3 n e hn
      refine ⟨i, x, by omega, h3, h2, ?_⟩
      rw [hvi]
      exact hperm.mem_iff.1 h1
    · obtain ⟨j, x, h1, h2, h3, h4⟩ := h.ok.from_ n e
      refine ⟨j, x, by omega, by rw [(a2 n e).2, h2], by rw [(a2 n e).1, h3], ?_⟩
      rw [hvo j h1]
      exact h4
  · intro j hj
    show (if j = i then p else ix j) < _
    by_cases e : j = i
    · rw [if_pos e, e]; exact hp
    · rw [if_neg e]; exact h.vl j (by omega)
  · intro j hj
    unfold Plain.upd
    by_cases e : j = i
    · rw [if_pos e, e, hvi]
    · rw [if_neg e, hvo j (by omega)]; exact h.pf j (by omega)
  · intro n hn
    rw [a4, List.mem_append]
    by_cases e : (rl.foldl (Plain.lay i) (st, by_, sl)).1 n = st n
    · exact .inl (h.mem n (by rw [← e]; exact hn))
    · exact .inr (a7 n e)
  · rw [a4, List.length_append]
    have h1 := h.ln
    have h2 := hperm.length_eq
    have h3 := rest_len hok hvV
    omega
  · intro n hn
    rw [a4, List.mem_append] at hn
    rcases hn with hn | hn
    · exact h.lt n hn
    · obtain ⟨_, x, hx⟩ := a6 n hn
      exact (rest_mem hok hvV (hperm.mem_iff.1 hx)).1
end

/-- what from answers -/
def FPost (d : D) (b : Bk) (y : Dy) (S : Nat) (q : Sq) (C : Nat → List Nat) (cb cc : Nat → Nat) (sf : Nat → Prop) (i : Nat) (ix : Nat → Nat) (st by_ : Nat → Int) (sl : List Nat) (w : World) (e : Ending) (w' : World) : Prop :=
  Kp (fun k => ¬ sf k) w w' ∧
  ((∃ ix' pr' setv' pf' st' by' sl', e = .returned (.tuple #[.int .i64 (q.k : Int), .slice none 0 0]) ∧ Plain.FirstFrom q.k C (rest d) i ix' ∧ (∀ j, j < i → ix' j = ix j) ∧ FW d b y S q C cb cc sf pr' w' setv' pf' st' by' sl' ∧ FL d C q.k ix' pf' st' by' sl') ∨
   (∃ (back : Int) (bb m mc : Nat) (B : Nat → Bool) (pr' : Nat → Prop) (setv' : Value) (pf' by' : Nat → Int), e = .returned (.tuple #[.int .i64 back, .slice (some ⟨bb, 0, none⟩) m mc]) ∧ i ≤ m ∧ m ≤ mc ∧ (∀ j, j < i → w'.cell? ⟨bb, j, none⟩ = some (.bool (B j))) ∧ w.heap.size ≤ bb ∧ -1 ≤ back ∧ back < (i : Int) ∧
      (∀ j : Nat, j < i → back < (j : Int) → B j = false) ∧ Plain.Fail q.k C (rest d) i (Plain.val C ix) B ∧ FW d b y S q C cb cc sf pr' w' setv' pf' st by' sl ∧ FL d C i ix pf' st by' sl ∧ (∀ n, st n ≠ -1 → by' n = by_ n)))
end Go.Proofs.Ybulkctjg
