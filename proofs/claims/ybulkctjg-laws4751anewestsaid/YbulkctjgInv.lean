import Derived.Test.YbulkctjgFind
namespace Go.Proofs.Ybulkctjg
open Go.RowKit
set_option linter.unusedVariables false

/-- what a value rests on -/
def rest (d : D) (v : Nat) : List (Nat × Nat) := (d.node v, v) :: (d.ins v).map (fun u => (d.node u, u))

theorem rest_nodup {d : D} (hok : d.Ok) {v : Nat} (hv : v < d.nV) : ((rest d v).map (·.1)).Nodup := by
  unfold rest
  rw [List.map_cons, List.map_map, List.nodup_cons]
  refine ⟨?_, hok.nd v hv⟩
  intro h
  obtain ⟨u, hu, e⟩ := List.mem_map.1 h
  have := hok.ins v hv u hu
  have e' : d.node u = d.node v := e
  omega
theorem rest_len {d : D} (hok : d.Ok) {v : Nat} (hv : v < d.nV) : (rest d v).length ≤ 4 := by
  unfold rest
  have := hok.il v hv
  simp; omega
theorem rest_mem {d : D} (hok : d.Ok) {v n x : Nat} (hv : v < d.nV) (h : (n, x) ∈ rest d v) : n < d.nM + 2 ∧ x < d.nV ∧ n = d.node x := by
  unfold rest at h
  rcases List.mem_cons.1 h with e | e
  · have e1 : n = d.node v := congrArg Prod.fst e
    have e2 : x = v := congrArg Prod.snd e
    subst e1; subst e2
    exact ⟨hok.node _ hv, hv, rfl⟩
  · obtain ⟨u, hu, e⟩ := List.mem_map.1 e
    have e1 : d.node u = n := congrArg Prod.fst e
    have e2 : u = x := congrArg Prod.snd e
    subst e1; subst e2
    have := hok.ins v hv u hu
    exact ⟨by omega, this.1, rfl⟩

/-- a row of pairs, read -/
def RdP (w : World) (cb : Nat) (rl : List (Nat × Nat)) : Prop :=
  ∀ j, j < rl.length → w.cell? ⟨cb, j * 2, none⟩ = some (.int .i32 (((rl.getD j (0, 0)).1 : Nat) : Int)) ∧ w.cell? ⟨cb, j * 2 + 1, none⟩ = some (.int .i32 (((rl.getD j (0, 0)).2 : Nat) : Int))
theorem RdP.kp {M : Nat → Prop} {u v : World} {cb : Nat} {rl : List (Nat × Nat)} (h : RdP u cb rl) (k : Kp M u v) (hc : ¬ M cb) : RdP v cb rl :=
  fun j hj => ⟨k.cell (h j hj).1 hc, k.cell (h j hj).2 hc⟩

/-- the blocks that restsOn may turn -/
def RM (y : Dy) (tv sv : Value) (k : Nat) : Prop := k = y.G ∨ k = y.xB ∨ k = y.fB ∨ k = y.sB ∨ tv.ownBlock = some k ∨ sv.ownBlock = some k

/-- a kept answer of restsOn -/
def Cch (d : D) (y : Dy) (S : Nat) (pr : Nat → Prop) (w : World) (tv sv : Value) (x : Value) (v : Nat) : Prop :=
  x = .slice none 0 0 ∨ ∃ cb rl, x = .slice (some ⟨cb, 0, none⟩) rl.length rl.length ∧ rl.Perm (rest d v) ∧ RdP w cb rl ∧ cb ∉ y.fix ∧ S ≤ cb ∧ cb < w.heap.size ∧ ¬ pr cb ∧ tv.ownBlock ≠ some cb ∧ sv.ownBlock ≠ some cb

def isNil : Value → Bool
  | .slice none _ _ => true
  | _ => false
/-- how many have no kept answer -/
def unc (rv : Nat → Value) : Nat → Nat
  | 0 => 0
  | n + 1 => unc rv n + (if isNil (rv n) then 1 else 0)
theorem unc_succ (rv : Nat → Value) (n : Nat) : unc rv (n + 1) = unc rv n + (if isNil (rv n) then 1 else 0) := rfl
theorem unc_other (rv : Nat → Value) (v : Nat) (x : Value) : ∀ n, n ≤ v → unc (fun j => if j = v then x else rv j) n = unc rv n := by
  intro n
  induction n with
  | zero => intro _; rfl
  | succ n ih =>
    intro h
    rw [unc_succ, unc_succ, ih (by omega)]
    simp only [if_neg (show ¬ n = v by omega)]
theorem unc_upd (rv : Nat → Value) (v : Nat) (x : Value) (h : isNil (rv v) = true) (hx : isNil x = false) : ∀ n, v < n → unc (fun j => if j = v then x else rv j) n + 1 = unc rv n := by
  intro n
  induction n with
  | zero => intro h; omega
  | succ n ih =>
    intro hv
    rw [unc_succ, unc_succ]
    by_cases e : n = v
    · subst e
      rw [unc_other rv n x n (Nat.le_refl _)]
      simp only [if_true, hx, h]
      simp
    · have := ih (by omega)
      simp only [if_neg e]
      omega
theorem unc_le (rv : Nat → Value) : ∀ n, unc rv n ≤ n := by
  intro n
  induction n with
  | zero => exact Nat.le_refl _
  | succ n ih => rw [unc_succ]; split <;> omega

/-- what find has found -/
def fps (ps : List (Nat × Nat)) : Nat → Int := ps.foldl (fun f p => Plain.upd f p.1 p.2) (fun _ => -1)
theorem fps_snoc (ps : List (Nat × Nat)) (n v : Nat) : fps (ps ++ [(n, v)]) = Plain.upd (fps ps) n v := by
  unfold fps; rw [List.foldl_append]; rfl
theorem fps_none (ps : List (Nat × Nat)) (n : Nat) (h : n ∉ ps.map (·.1)) : fps ps n = -1 := by
  have : ∀ (qs : List (Nat × Nat)), n ∉ qs.reverse.map (·.1) → fps qs.reverse n = -1 := by
    intro qs
    induction qs with
    | nil => intro _; rfl
    | cons q qs ih =>
      intro h
      obtain ⟨a, b⟩ := q
      rw [List.reverse_cons, List.map_append, List.mem_append] at h
      rw [List.reverse_cons, fps_snoc]
      unfold Plain.upd
      rw [if_neg (fun e => h (.inr (by simp [e])))]
      exact ih (fun h' => h (.inl h'))
  have h2 := this ps.reverse
  rw [List.reverse_reverse] at h2
  exact h2 h
theorem fps_some (ps : List (Nat × Nat)) (hnd : (ps.map (·.1)).Nodup) (n x : Nat) (h : (n, x) ∈ ps) : fps ps n = (x : Int) := by
  have : ∀ (qs : List (Nat × Nat)), (qs.reverse.map (·.1)).Nodup → (n, x) ∈ qs.reverse → fps qs.reverse n = (x : Int) := by
    intro qs
    induction qs with
    | nil => intro _ h; simp at h
    | cons q qs ih =>
      intro hnd h
      obtain ⟨a, b⟩ := q
      rw [List.reverse_cons] at hnd h ⊢
      rw [List.map_append, List.nodup_append] at hnd
      rw [fps_snoc]
      unfold Plain.upd
      rcases List.mem_append.1 h with h1 | h1
      · have hne : n ≠ a := hnd.2.2 n (List.mem_map.2 ⟨(n, x), h1, rfl⟩) a (by simp)
        rw [if_neg hne]
        exact ih hnd.1 h1
      · have e : (n, x) = (a, b) := by simpa using h1
        have e1 : n = a := congrArg Prod.fst e
        have e2 : x = b := congrArg Prod.snd e
        rw [if_pos e1, e2]
  have h2 := this ps.reverse
  rw [List.reverse_reverse] at h2
  exact h2 hnd h

structure GI (d : D) (b : Bk) (y : Dy) (S : Nat) (pr : Nat → Prop) (w : World) (tv : Value) (c : Nat) (sv : Value) (rv : Nat → Value) (sn : Nat → Int) (ps : List (Nat × Nat)) (stk : List Nat) : Prop where
  st : Stat d b (view S w)
  hS : S ≤ w.heap.size
  g : Gis d b y tv (c : Int) sv w
  x : w.rowIs y.xB 133 d.nV rv
  f : w.rowIs y.fB 48 (d.nM + 2) (fun i => .int .i32 (fps ps i))
  s : w.rowIs y.sB 3 d.nV (fun v => .int .i64 (sn v))
  t : OV w 96 tv (ps.map (·.1))
  k : OV w 48 sv stk
  tb : ∀ k, tv.ownBlock = some k → k ∉ y.fix ∧ S ≤ k ∧ ¬ pr k ∧ sv.ownBlock ≠ some k
  kb : ∀ k, sv.ownBlock = some k → k ∉ y.fix ∧ S ≤ k ∧ ¬ pr k
  ca : ∀ v, v < d.nV → Cch d y S pr w tv sv (rv v) v
  fx : ∀ k, k ∈ y.fix → k < w.heap.size
  pl : ∀ k, pr k → k < w.heap.size
  pf : ∀ k, pr k → k ∉ y.fix ∨ k = y.tB ∨ k = y.yB

section
variable {d : D} {b : Bk} {y : Dy} {S : Nat} {pr : Nat → Prop} {w w' : World} {tv tv' : Value} {c c' : Nat} {sv sv' : Value} {rv : Nat → Value} {sn : Nat → Int} {ps : List (Nat × Nat)} {stk : List Nat}

theorem mem_fix (y : Dy) : y.G ∈ y.fix ∧ y.xB ∈ y.fix ∧ y.kB ∈ y.fix ∧ y.fB ∈ y.fix ∧ y.sB ∈ y.fix ∧ y.tB ∈ y.fix ∧ y.yB ∈ y.fix := by simp [Dy.fix]

theorem GI.rm_ge (h : GI d b y S pr w tv c sv rv sn ps stk) (hy : y.Ok S) : ∀ k, RM y tv sv k → S ≤ k := by
  have m := mem_fix y
  rintro k (e | e | e | e | e | e)
  · exact hy.ge k (e ▸ m.1)
  · exact hy.ge k (e ▸ m.2.1)
  · exact hy.ge k (e ▸ m.2.2.2.1)
  · exact hy.ge k (e ▸ m.2.2.2.2.1)
  · exact (h.tb k e).2.1
  · exact (h.kb k e).2.1

/-- a kept answer's block is none that restsOn turns -/
theorem Cch.move {x : Value} {v : Nat} (h : Cch d y S pr w tv sv x v) (k : Kp (RM y tv sv) w w') (ht : ∀ k, tv'.ownBlock = some k → tv.ownBlock = some k ∨ w.heap.size ≤ k) (hk : ∀ k, sv'.ownBlock = some k → sv.ownBlock = some k ∨ w.heap.size ≤ k) : Cch d y S pr w' tv' sv' x v := by
  rcases h with h | ⟨cb, rl, h1, h2, h3, h4, h5, h6, h7, h8, h9⟩
  · exact .inl h
  · have m := mem_fix y
    have hn : ¬ RM y tv sv cb := by
      rintro (e | e | e | e | e | e)
      · exact h4 (e ▸ m.1)
      · exact h4 (e ▸ m.2.1)
      · exact h4 (e ▸ m.2.2.2.1)
      · exact h4 (e ▸ m.2.2.2.2.1)
      · exact h8 e
      · exact h9 e
    refine .inr ⟨cb, rl, h1, h2, h3.kp k hn, h4, h5, Nat.lt_of_lt_of_le h6 k.size, h7, ?_, ?_⟩
    · intro e
      rcases ht cb e with e | e
      · exact h8 e
      · omega
    · intro e
      rcases hk cb e with e | e
      · exact h9 e
      · omega

theorem GI.upd {ps' : List (Nat × Nat)} {stk' : List Nat} {sn' : Nat → Int} (h : GI d b y S pr w tv c sv rv sn ps stk) (hy : y.Ok S) (kp : Kp (RM y tv sv) w w') (ht : ∀ k, tv'.ownBlock = some k → tv.ownBlock = some k ∨ w.heap.size ≤ k) (hk : ∀ k, sv'.ownBlock = some k → sv.ownBlock = some k ∨ w.heap.size ≤ k)
    (hts : ∀ k, tv'.ownBlock = some k → sv'.ownBlock ≠ some k) (g' : Gis d b y tv' (c' : Int) sv' w') (x' : w'.rowIs y.xB 133 d.nV rv) (f' : w'.rowIs y.fB 48 (d.nM + 2) (fun i => .int .i32 (fps ps' i))) (s' : w'.rowIs y.sB 3 d.nV (fun v => .int .i64 (sn' v)))
    (t' : OV w' 96 tv' (ps'.map (·.1))) (k' : OV w' 48 sv' stk') : GI d b y S pr w' tv' c' sv' rv sn' ps' stk' := by
  have hne : ∀ k, w.heap.size ≤ k → k ∉ y.fix ∧ S ≤ k ∧ ¬ pr k := fun k hk => ⟨fun hm => by have := h.fx k hm; omega, by have := h.hS; omega, fun hp => by have := h.pl k hp; omega⟩
  refine ⟨?_, Nat.le_trans h.hS kp.size, g', x', f', s', t', k', ?_, ?_, fun v hv => (h.ca v hv).move kp ht hk, fun k hk => Nat.lt_of_lt_of_le (h.fx k hk) kp.size, fun k hk => Nat.lt_of_lt_of_le (h.pl k hk) kp.size, h.pf⟩
  · rw [kp.view h.hS (h.rm_ge hy)]; exact h.st
  · intro k e
    refine ⟨?_, ?_, ?_, hts k e⟩
    · rcases ht k e with e | e
      · exact (h.tb k e).1
      · exact (hne k e).1
    · rcases ht k e with e | e
      · exact (h.tb k e).2.1
      · exact (hne k e).2.1
    · rcases ht k e with e | e
      · exact (h.tb k e).2.2.1
      · exact (hne k e).2.2
  · intro k e
    rcases hk k e with e | e
    · exact h.kb k e
    · exact hne k e

theorem GI.drew (h : GI d b y S pr w tv c sv rv sn ps stk) : GI d b y S pr w.drew tv c sv rv sn ps stk :=
  ⟨h.st, h.hS, h.g, h.x, h.f, h.s, h.t, h.k, h.tb, h.kb, h.ca, h.fx, h.pl, h.pf⟩
theorem GI.drewN (h : GI d b y S pr w tv c sv rv sn ps stk) (n : Nat) : GI d b y S pr (w.drewN n) tv c sv rv sn ps stk :=
  ⟨h.st, h.hS, h.g, h.x, h.f, h.s, h.t, h.k, h.tb, h.kb, h.ca, h.fx, h.pl, h.pf⟩

/-- blocks of the rows' and of the two slices, apart -/
theorem GI.tne (h : GI d b y S pr w tv c sv rv sn ps stk) : tv.ownBlock ≠ some y.G ∧ tv.ownBlock ≠ some y.xB ∧ tv.ownBlock ≠ some y.fB ∧ tv.ownBlock ≠ some y.sB := by
  have m := mem_fix y
  exact ⟨fun e => (h.tb _ e).1 m.1, fun e => (h.tb _ e).1 m.2.1, fun e => (h.tb _ e).1 m.2.2.2.1, fun e => (h.tb _ e).1 m.2.2.2.2.1⟩
theorem GI.kne (h : GI d b y S pr w tv c sv rv sn ps stk) : sv.ownBlock ≠ some y.G ∧ sv.ownBlock ≠ some y.xB ∧ sv.ownBlock ≠ some y.fB ∧ sv.ownBlock ≠ some y.sB := by
  have m := mem_fix y
  exact ⟨fun e => (h.kb _ e).1 m.1, fun e => (h.kb _ e).1 m.2.1, fun e => (h.kb _ e).1 m.2.2.2.1, fun e => (h.kb _ e).1 m.2.2.2.2.1⟩

theorem GI.alloc (h : GI d b y S pr w tv c sv rv sn ps stk) (hy : y.Ok S) (o : Obj) : GI d b y S pr (w.alloc o) tv c sv rv sn ps stk := by
  have kp : Kp (fun _ => False) w (w.alloc o) := (Kp.refl _ w).alloc o
  exact h.upd hy (kp.mono (fun _ _ h => h.elim)) (fun k e => .inl e) (fun k e => .inl e) (fun k e => (h.tb k e).2.2.2) (kp.gis h.g id) (kp.rowIs h.x id) (kp.rowIs h.f id) (kp.rowIs h.s id) (kp.ov h.t (fun _ _ => id)) (kp.ov h.k (fun _ _ => id))

/-- g.calls = c' -/
theorem GI.calls (h : GI d b y S pr w tv c sv rv sn ps stk) (hy : y.Ok S) (c' : Nat) : GI d b y S pr (w.setCell ⟨y.G, 7, none⟩ (.int .i64 (c' : Int))) tv c' sv rv sn ps stk := by
  have kp := Kp.set1 w y.G 7 (.int .i64 (c' : Int))
  have n := hy.ne
  exact h.upd hy (kp.mono (fun _ _ e => .inl e)) (fun k e => .inl e) (fun k e => .inl e) (fun k e => (h.tb k e).2.2.2) (h.g.set7 _) (kp.rowIs h.x (fun e => n.1 e.symm)) (kp.rowIs h.f (fun e => n.2.2.1 e.symm)) (kp.rowIs h.s (fun e => n.2.2.2.1 e.symm))
    (kp.ov h.t (fun b hb e => h.tne.1 (by rw [hb, e]))) (kp.ov h.k (fun b hb e => h.kne.1 (by rw [hb, e])))

/-- g.seen[v] = x -/
theorem GI.seen (h : GI d b y S pr w tv c sv rv sn ps stk) (hy : y.Ok S) (v : Nat) (x : Int) : GI d b y S pr (w.setCell ⟨y.sB, v, none⟩ (.int .i64 x)) tv c sv rv (Plain.upd sn v x) ps stk := by
  have kp := Kp.set1 w y.sB v (.int .i64 x)
  have n := hy.ne
  refine h.upd hy (kp.mono (fun _ _ e => .inr (.inr (.inr (.inl e))))) (fun k e => .inl e) (fun k e => .inl e) (fun k e => (h.tb k e).2.2.2) (kp.gis h.g (fun e => n.2.2.2.1 e)) (kp.rowIs h.x (fun e => n.2.2.2.2.2.2.2.2.1 e)) (kp.rowIs h.f (fun e => n.2.2.2.2.2.2.2.2.2.2.2.2.2.2.2.1 e)) ?_
    (kp.ov h.t (fun b hb e => h.tne.2.2.2 (by rw [hb, e]))) (kp.ov h.k (fun b hb e => h.kne.2.2.2 (by rw [hb, e])))
  refine (h.s.set v _).congr ?_
  intro i hi
  unfold Plain.upd
  split <;> rfl

/-- g.stack = v', a slice of the world at hand -/
theorem GI.stack (h : GI d b y S pr w tv c sv rv sn ps stk) (hy : y.Ok S) {v' : Value} {stk' : List Nat} (kp0 : Kp (fun k => sv.ownBlock = some k) w w') (ho : OV w' 48 v' stk') (hv : ∀ k, v'.ownBlock = some k → sv.ownBlock = some k ∨ w.heap.size ≤ k) :
    GI d b y S pr (w'.setCell ⟨y.G, 8, none⟩ v') tv c v' rv sn ps stk' := by
  have kp1 := Kp.set1 w' y.G 8 v'
  have n := hy.ne
  have hvG : ∀ b, v'.ownBlock = some b → ¬ (b = y.G) := by
    intro b hb e
    rcases hv b hb with h1 | h1
    · exact h.kne.1 (by rw [h1, e])
    · have := h.g.lt; omega
  have t0 : OV w' 96 tv (ps.map (·.1)) := kp0.ov h.t (fun b hb e => (h.tb b hb).2.2.2 e)
  refine h.upd hy ((kp0.mono (fun k _ e => .inr (.inr (.inr (.inr (.inr e)))))).setCell (fun _ => .inl rfl) _) (fun k e => .inl e) hv ?_ ((kp0.gis h.g h.kne.1).set8 _) (kp1.rowIs (kp0.rowIs h.x h.kne.2.1) (fun e => n.1 e.symm)) (kp1.rowIs (kp0.rowIs h.f h.kne.2.2.1) (fun e => n.2.2.1 e.symm)) (kp1.rowIs (kp0.rowIs h.s h.kne.2.2.2) (fun e => n.2.2.2.1 e.symm))
    (kp1.ov t0 (fun b hb e => h.tne.1 (by rw [hb, e]))) (kp1.ov ho hvG)
  intro k hk e
  rcases hv k e with h1 | h1
  · exact (h.tb k hk).2.2.2 h1
  · have := h.t.lt k hk; omega

/-- behind find -/
theorem GI.find {e : Ending} {n v : Nat} (h : GI d b y S pr w tv c sv rv sn ps stk) (hy : y.Ok S) (hf : FindPost d b y c sv tv (fps ps) (ps.map (·.1)) n v w e w') : e = .returned (.tuple #[]) ∧ ∃ tv', GI d b y S pr w' tv' c sv rv sn (ps ++ [(n, v)]) stk ∧ Kp (RM y tv sv) w w' ∧ (∀ k, tv'.ownBlock = some k → tv.ownBlock = some k ∨ w.heap.size ≤ k) := by
  obtain ⟨he, tv', hg, hr, ho, kp, ht⟩ := hf
  have nn := hy.ne
  have hM : ∀ k, (k = y.G ∨ k = y.fB ∨ tv.ownBlock = some k) → RM y tv sv k := by
    rintro k (e | e | e)
    · exact .inl e
    · exact .inr (.inr (.inl e))
    · exact .inr (.inr (.inr (.inr (.inl e))))
  refine ⟨he, tv', h.upd hy (kp.mono (fun k _ e => hM k e)) ht (fun k e => .inl e) ?_ hg (kp.rowIs h.x ?_) ?_ (kp.rowIs h.s ?_) ?_ (kp.ov h.k ?_), kp.mono (fun k _ e => hM k e), ht⟩
  · intro k e e2
    rcases ht k e with h1 | h1
    · exact (h.tb k h1).2.2.2 e2
    · have := h.k.lt k e2; omega
  · rintro (e | e | e)
    · exact nn.1 e.symm
    · exact nn.2.2.2.2.2.2.2.1 e
    · exact h.tne.2.1 e
  · rw [fps_snoc]; exact hr
  · rintro (e | e | e)
    · exact nn.2.2.2.1 e.symm
    · exact nn.2.2.2.2.2.2.2.2.2.2.2.2.2.2.2.1 e.symm
    · exact h.tne.2.2.2 e
  · rw [List.map_append]; exact ho
  · intro b hb
    rintro (e | e | e)
    · exact h.kne.1 (by rw [hb, e])
    · exact h.kne.2.2.1 (by rw [hb, e])
    · exact (h.tb b e).2.2.2 hb
end
end Go.Proofs.Ybulkctjg
