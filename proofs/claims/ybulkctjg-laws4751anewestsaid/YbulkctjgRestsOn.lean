import Derived.Test.YbulkctjgInv
namespace Go.Proofs.Ybulkctjg
open Go.RowKit
set_option linter.unusedVariables false

def Bd (d : D) (c : Nat) (rv : Nat → Value) (sn : Nat → Int) : Prop := (∀ v, v < d.nV → sn v ≤ (c : Int)) ∧ c + unc rv d.nV ≤ d.nV

def RPost (d : D) (b : Bk) (y : Dy) (S : Nat) (pr : Nat → Prop) (v : Nat) (tv sv : Value) (w : World) (e : Ending) (w' : World) : Prop :=
  ∃ cb rl tv' c' sv' rv' sn', e = .returned (.slice (some ⟨cb, 0, none⟩) rl.length rl.length) ∧ rl.Perm (rest d v) ∧ RdP w' cb rl ∧ cb ∉ y.fix ∧ S ≤ cb ∧ cb < w'.heap.size ∧ ¬ pr cb ∧ tv'.ownBlock ≠ some cb ∧ sv'.ownBlock ≠ some cb ∧
    GI d b y S pr w' tv' c' sv' rv' sn' [] [] ∧ Bd d c' rv' sn' ∧ Kp (RM y tv sv) w w' ∧ (∀ k, tv'.ownBlock = some k → tv.ownBlock = some k ∨ w.heap.size ≤ k) ∧ (∀ k, sv'.ownBlock = some k → sv.ownBlock = some k ∨ w.heap.size ≤ k)

def pair (d : D) (u : Nat) : Nat × Nat := (d.node u, u)
/-- the walk over what v rests on: k rounds at most are to come -/
def L1 (d : D) (b : Bk) (y : Dy) (S : Nat) (pr : Nat → Prop) (v : Nat) (tv sv : Value) (w : World) (c : Nat) (rv : Nat → Value) (k : Nat) (wr : World) : Prop :=
  ∃ ps stk tv1 sv1 sn1, GI d b y S pr wr tv1 (c + 1) sv1 rv sn1 ps stk ∧ Kp (RM y tv sv) w wr ∧ (∀ k, tv1.ownBlock = some k → tv.ownBlock = some k ∨ w.heap.size ≤ k) ∧ (∀ k, sv1.ownBlock = some k → sv.ownBlock = some k ∨ w.heap.size ≤ k) ∧ (∀ u, u < d.nV → sn1 u ≤ (c : Int) + 1) ∧
    ((k = (d.ins v).length + 1 ∧ ps = [] ∧ stk = [v] ∧ ∀ u, u ∈ d.ins v → sn1 u ≤ (c : Int)) ∨ (k ≤ (d.ins v).length ∧ stk = (d.ins v).take k ∧ ps = (d.node v, v) :: (((d.ins v).drop k).reverse.map (pair d))))

theorem upd_le {sn : Nat → Int} {v n : Nat} {x c : Int} (hx : x ≤ c) (h : ∀ u, u < n → sn u ≤ c) : ∀ u, u < n → Plain.upd sn v x u ≤ c := by
  intro u hu
  unfold Plain.upd
  split
  · exact hx
  · exact h u hu

theorem OV.at {w : World} {t n : Nat} {v : Value} {xs : List Nat} (h : OV w t v xs) (e : xs.length = n) : w.ownsRow 0 t 1 v n (i32s xs) := by rw [← e]; exact h
theorem OV.snocN {w : World} {t g cap n : Nat} {xs : List Nat} {x : Nat} (e : xs.length = n) (h : w.ownsRow 0 t 1 (.slice (some ⟨g, 0, none⟩) (n + 1) cap) (n + 1) (i32s xs ++ [.int .i32 (x : Int)])) : Own w t g (n + 1) cap (xs ++ [x]) := by
  subst e; exact OV.snoc h

theorem info137 : (Yba.prog.info? 137).map (fun i => (i.zero, i.size, i.bytes)) = some (some (.agg #[.int .i32 0, .int .i32 0]), 2, 8) := by kernel_rfl
theorem make133 (m : Nat) (hm : m ≤ 100) (w : World) : (Instr.makeSlice 133 (.int .i64 (m : Int)) (.int .i64 (m : Int))).run Yba.prog w = .ok (.slice (some ⟨w.heap.size, 0, none⟩) m m) (w.alloc (.cells (madeCells #[.int .i32 0, .int .i32 0] (m * 2)) 137)) := by
  obtain ⟨i, hi, hzz⟩ := Option.map_eq_some_iff.1 info137
  simp only [Prod.mk.injEq] at hzz
  obtain ⟨hz, hs, hb⟩ := hzz
  have := run_make w 133 137 i _ Yba.underlying133 hi hz .i64 .i64 (m : Int) (m : Int) (by omega) (by omega) (by rw [hb]; omega) (by omega)
  rw [this, hs]
  rfl
theorem rowIs_new (w : World) (c : Array Value) (t : TypeId) (n : Nat) (hn : c.size = n) : ∃ f, (w.alloc (.cells c t)).rowIs w.heap.size t n f := by
  subst hn
  refine ⟨fun i => c.getD i undef, World.rowIs_alloc w c t _ ?_⟩
  intro i hi
  simp [Array.getD, hi]

/-- what restsOn lays at its end -/
def rlOf (ps : List (Nat × Nat)) (ys : List Nat) : List (Nat × Nat) := ys.map (fun n => (n, (fps ps n).toNat))
theorem rlOf_perm {ps : List (Nat × Nat)} {ys : List Nat} (hnd : (ps.map (·.1)).Nodup) (h : ys.Perm (ps.map (·.1))) : (rlOf ps ys).Perm ps := by
  have h1 := h.map (fun n => (n, (fps ps n).toNat))
  rw [List.map_map] at h1
  have e : List.map ((fun n => (n, (fps ps n).toNat)) ∘ (·.1)) ps = ps := by
    have : ∀ p, p ∈ ps → ((fun n => (n, (fps ps n).toNat)) ∘ (·.1)) p = p := by
      rintro ⟨n, x⟩ hp
      show (n, (fps ps n).toNat) = (n, x)
      rw [fps_some ps hnd n x hp]
      rfl
    rw [List.map_congr_left this]
    simp
  rw [e] at h1
  exact h1

theorem restsOn_done {d : D} {b : Bk} {y : Dy} {S : Nat} {pr : Nat → Prop} {v : Nat} {w : World} {tv : Value} {c : Nat} {sv : Value} {rv : Nat → Value} {sn sn1 : Nat → Int} (hok : d.Ok) (hy : y.Ok S) (hv : v < d.nV) (hb : Bd d c rv sn) (hnil : rv v = .slice none 0 0)
    {tg T tcap rb : Nat} {sv1 : Value} {ps : List (Nat × Nat)} {wr0 w1 w2a wr : World} {ys : List Nat} {ff : Nat → Value}
    (g0 : GI d b y S pr wr0 (.slice (some ⟨tg, 0, none⟩) T tcap) (c + 1) sv1 rv sn1 ps []) (k0 : Kp (RM y tv sv) w wr0) (ht0 : ∀ k, (Value.slice (some ⟨tg, 0, none⟩) T tcap).ownBlock = some k → tv.ownBlock = some k ∨ w.heap.size ≤ k) (hs0 : ∀ k, sv1.ownBlock = some k → sv.ownBlock = some k ∨ w.heap.size ≤ k)
    (hn1 : ∀ u, u < d.nV → sn1 u ≤ (c : Int) + 1) (hpr : ps.Perm (rest d v)) (hpnd : (ps.map (·.1)).Nodup) (hperm : ys.Perm (ps.map (·.1))) (ho1 : Own w1 96 tg T tcap ys) (kp1 : Kp (fun k => k = tg) wr0 w1) (ka : Kp (fun _ => False) w1 w2a) (hsz : w2a.heap.size = rb + 1) (hrb : w1.heap.size = rb)
    (a1 : Kp (fun k => k = rb ∨ k = y.fB) w2a wr) (a2 : wr.rowIs y.fB 48 (d.nM + 2) (fun n => .int .i32 (if n ∈ ys.take T then -1 else fps ps n))) (a3 : wr.rowIs rb 137 (T * 2) ff)
    (a4 : ∀ j, j < T → wr.cell? ⟨rb, j * 2, none⟩ = some (.int .i32 ((ys.getD j 0 : Nat) : Int)) ∧ wr.cell? ⟨rb, j * 2 + 1, none⟩ = some (.int .i32 (fps ps (ys.getD j 0)))) :
    RPost d b y S pr v tv sv w (.returned (.slice (some ⟨rb, 0, none⟩) T T)) ((wr.setCell ⟨y.G, 5, none⟩ (.slice (some ⟨tg, 0, none⟩) 0 tcap)).setCell ⟨y.xB, v, none⟩ (.slice (some ⟨rb, 0, none⟩) T T)) := by
  have m0 := mem_fix y
  have nn := hy.ne
  have htb := g0.tb tg rfl
  have hsz0 := kp1.size
  have hylen := ho1.len
  have hlt0 : ∀ k, k ∈ y.fix → k < rb := fun k hk => by have := g0.fx k hk; omega
  have hrfix : rb ∉ y.fix := fun h => by have := hlt0 rb h; omega
  have htr : tg ≠ rb := by have := ho1.lt; omega
  have htfix := htb.1
  -- the whole way
  have kq : Kp (fun k => k = tg ∨ k = rb ∨ k = y.fB) wr0 wr := by
    refine ((kp1.mono (fun _ _ e => .inl e)).trans' ka (fun _ _ h => h.elim)).trans' a1 ?_
    rintro i _ (e | e)
    · exact .inr (.inl e)
    · exact .inr (.inr e)
  have kF0 : Kp (fun k => k = tg ∨ k = rb ∨ k = y.fB ∨ k = y.G ∨ k = y.xB) wr0 ((wr.setCell ⟨y.G, 5, none⟩ (.slice (some ⟨tg, 0, none⟩) 0 tcap)).setCell ⟨y.xB, v, none⟩ (.slice (some ⟨rb, 0, none⟩) T T)) := by
    refine ((kq.mono ?_).setCell (fun _ => .inr (.inr (.inr (.inl rfl)))) _).setCell (fun _ => .inr (.inr (.inr (.inr rfl)))) _
    rintro i _ (e | e | e)
    · exact .inl e
    · exact .inr (.inl e)
    · exact .inr (.inr (.inl e))
  have kF : Kp (RM y (.slice (some ⟨tg, 0, none⟩) T tcap) sv1) wr0 ((wr.setCell ⟨y.G, 5, none⟩ (.slice (some ⟨tg, 0, none⟩) 0 tcap)).setCell ⟨y.xB, v, none⟩ (.slice (some ⟨rb, 0, none⟩) T T)) := by
    refine kF0.mono ?_
    rintro i hi (e | e | e | e | e)
    · exact .inr (.inr (.inr (.inr (.inl (by rw [e]; rfl)))))
    · omega
    · exact .inr (.inr (.inl e))
    · exact .inl e
    · exact .inr (.inl e)
  have k2 : Kp (fun k => k = y.G ∨ k = y.xB) wr ((wr.setCell ⟨y.G, 5, none⟩ (.slice (some ⟨tg, 0, none⟩) 0 tcap)).setCell ⟨y.xB, v, none⟩ (.slice (some ⟨rb, 0, none⟩) T T)) := ((Kp.refl _ _).setCell (fun _ => .inl rfl) _).setCell (fun _ => .inr rfl) _
  have gisq : Gis d b y (.slice (some ⟨tg, 0, none⟩) T tcap) ((c + 1 : Nat) : Int) sv1 wr := kq.gis g0.g (by
    rintro (e | e | e)
    · exact htfix (e ▸ m0.1)
    · exact hrfix (e ▸ m0.1)
    · exact nn.2.2.1 e)
  have xq : wr.rowIs y.xB 133 d.nV rv := kq.rowIs g0.x (by
    rintro (e | e | e)
    · exact htfix (e ▸ m0.2.1)
    · exact hrfix (e ▸ m0.2.1)
    · exact nn.2.2.2.2.2.2.2.1 e)
  have hrl : (rlOf ps ys).Perm (rest d v) := (rlOf_perm hpnd hperm).trans hpr
  have hrll : (rlOf ps ys).length = T := by unfold rlOf; rw [List.length_map, hylen]
  have hT1 : 1 ≤ T := by
    have h := hrl.length_eq
    rw [hrll] at h
    unfold rest at h
    simp at h
    omega
  have hrd : RdP ((wr.setCell ⟨y.G, 5, none⟩ (.slice (some ⟨tg, 0, none⟩) 0 tcap)).setCell ⟨y.xB, v, none⟩ (.slice (some ⟨rb, 0, none⟩) T T)) rb (rlOf ps ys) := by
    have h1 : RdP wr rb (rlOf ps ys) := by
      intro j hj
      rw [hrll] at hj
      have e : (rlOf ps ys).getD j (0, 0) = (ys.getD j 0, (fps ps (ys.getD j 0)).toNat) := by
        unfold rlOf
        rw [List.getD_eq_getElem?_getD, List.getElem?_map, List.getD_eq_getElem?_getD, List.getElem?_eq_getElem (by omega)]
        rfl
      have hnn : 0 ≤ fps ps (ys.getD j 0) := by
        have hm : ys.getD j 0 ∈ ys := by rw [List.getD_eq_getElem?_getD, List.getElem?_eq_getElem (by omega)]; exact List.getElem_mem _
        obtain ⟨⟨n, x⟩, h2, h3⟩ := List.mem_map.1 (hperm.mem_iff.1 hm)
        rw [← h3, fps_some ps hpnd n x h2]
        omega
      rw [e]
      refine ⟨(a4 j hj).1, ?_⟩
      rw [(a4 j hj).2]
      show some (Value.int .i32 _) = some (Value.int .i32 (((fps ps (ys.getD j 0)).toNat : Nat) : Int))
      rw [Int.toNat_of_nonneg hnn]
    refine h1.kp k2 ?_
    rintro (e | e)
    · exact hrfix (e ▸ m0.1)
    · exact hrfix (e ▸ m0.2.1)
  have hks : ∀ k, sv1.ownBlock = some k → k < wr0.heap.size ∧ k ∉ y.fix ∧ k ≠ tg ∧ k ≠ rb := by
    intro k e
    have h1 := g0.k.lt k e
    refine ⟨h1, (g0.kb k e).1, fun e2 => ?_, by omega⟩
    rw [e2] at e
    exact (g0.tb tg rfl).2.2.2 e
  have hfsz : rb < ((wr.setCell ⟨y.G, 5, none⟩ (.slice (some ⟨tg, 0, none⟩) 0 tcap)).setCell ⟨y.xB, v, none⟩ (.slice (some ⟨rb, 0, none⟩) T T)).heap.size := by
    have h1 := a1.size
    have h2 := k2.size
    omega
  have hpr2 : ¬ pr rb := fun h => by have := g0.pl rb h; omega
  have hGI : GI d b y S pr ((wr.setCell ⟨y.G, 5, none⟩ (.slice (some ⟨tg, 0, none⟩) 0 tcap)).setCell ⟨y.xB, v, none⟩ (.slice (some ⟨rb, 0, none⟩) T T)) (.slice (some ⟨tg, 0, none⟩) 0 tcap) (c + 1) sv1 (fun j => if j = v then .slice (some ⟨rb, 0, none⟩) T T else rv j) sn1 [] [] := by
    refine ⟨?_, Nat.le_trans g0.hS kF.size, ?_, ?_, ?_, ?_, ?_, ?_, ?_, ?_, ?_, fun k hk => Nat.lt_of_lt_of_le (g0.fx k hk) kF.size, fun k hk => Nat.lt_of_lt_of_le (g0.pl k hk) kF.size, g0.pf⟩
    · rw [kF.view g0.hS (g0.rm_ge hy)]; exact g0.st
    · exact (Kp.set1 _ y.xB v _).gis (gisq.set5 _) (fun e => nn.1 e)
    · exact ((Kp.set1 wr y.G 5 _).rowIs xq (fun e => nn.1 e.symm)).set v _
    · refine (k2.rowIs a2 ?_).congr ?_
      · rintro (e | e)
        · exact nn.2.2.1 e.symm
        · exact nn.2.2.2.2.2.2.2.1 e.symm
      · intro i hi
        show Value.int .i32 (if i ∈ ys.take T then -1 else fps ps i) = Value.int .i32 (-1)
        rw [List.take_of_length_le (by omega)]
        by_cases h : i ∈ ys
        · rw [if_pos h]
        · rw [if_neg h, fps_none ps i (fun h2 => h (hperm.mem_iff.2 h2))]
    · refine kF0.rowIs g0.s ?_
      rintro (e | e | e | e | e)
      · exact htfix (e ▸ m0.2.2.2.2.1)
      · exact hrfix (e ▸ m0.2.2.2.2.1)
      · exact nn.2.2.2.2.2.2.2.2.2.2.2.2.2.2.2.1 e.symm
      · exact nn.2.2.2.1 e.symm
      · exact nn.2.2.2.2.2.2.2.2.1 e.symm
    · have h1 : Own wr 96 tg T tcap ys := a1.own (ka.own ho1 id) (by
        rintro (e | e)
        · exact htr e
        · exact htfix (e ▸ m0.2.2.2.1))
      have h2 := k2.own h1 (by
        rintro (e | e)
        · exact htfix (e ▸ m0.1)
        · exact htfix (e ▸ m0.2.1))
      exact OV.of_own (h2.take 0 (Nat.zero_le _))
    · refine kF0.ov g0.k ?_
      intro k hk
      obtain ⟨h1, h2, h3, h4⟩ := hks k hk
      rintro (e | e | e | e | e)
      · exact h3 e
      · exact h4 e
      · exact h2 (e ▸ m0.2.2.2.1)
      · exact h2 (e ▸ m0.1)
      · exact h2 (e ▸ m0.2.1)
    · intro k hk
      exact g0.tb k hk
    · exact g0.kb
    · intro u hu
      by_cases e : u = v
      · subst e
        rw [if_pos rfl]
        refine .inr ⟨rb, rlOf ps ys, by rw [hrll], hrl, hrd, hrfix, by have := g0.hS; omega, hfsz, hpr2, ?_, ?_⟩
        · intro e
          have : tg = rb := by simpa [Value.ownBlock] using e
          exact htr this
        · intro e
          exact (hks rb e).2.2.2 rfl
      · rw [if_neg e]
        exact (g0.ca u hu).move kF (fun k hk => .inl hk) (fun k hk => .inl hk)
  refine ⟨rb, rlOf ps ys, .slice (some ⟨tg, 0, none⟩) 0 tcap, c + 1, sv1, _, sn1, by rw [hrll], hrl, hrd, hrfix, by have := g0.hS; omega, hfsz, hpr2, ?_, ?_, hGI, ⟨fun u hu => by have := hn1 u hu; omega, ?_⟩, ?_, fun k hk => ht0 k hk, hs0⟩
  · intro e
    have : tg = rb := by simpa [Value.ownBlock] using e
    exact htr this
  · intro e
    exact (hks rb e).2.2.2 rfl
  · have h1 := unc_upd rv v (.slice (some ⟨rb, 0, none⟩) T T) (by rw [hnil]; rfl) rfl d.nV hv
    have h2 := hb.2
    omega
  · refine k0.trans' kF ?_
    rintro i hi (e | e | e | e | e | e)
    · exact .inl e
    · exact .inr (.inl e)
    · exact .inr (.inr (.inl e))
    · exact .inr (.inr (.inr (.inl e)))
    · rcases ht0 i e with h | h
      · exact .inr (.inr (.inr (.inr (.inl h))))
      · omega
    · rcases hs0 i e with h | h
      · exact .inr (.inr (.inr (.inr (.inr h))))
      · omega

set_option maxRecDepth 100000 in
set_option maxHeartbeats 4000000 in
theorem restsOn_walk (d : D) (b : Bk) (y : Dy) (S : Nat) (pr : Nat → Prop) (v : Nat) (w : World) (tv : Value) (c : Nat) (sv : Value) (rv : Nat → Value) (sn : Nat → Int) (hok : d.Ok) (hy : y.Ok S) (hv : v < d.nV) (hg : GI d b y S pr w tv c sv rv sn [] []) (hb : Bd d c rv sn) :
    Calls Yba.prog 37 #[.pointer (some ⟨y.G, 0, none⟩), .int .i32 v] w fun e w' => RPost d b y S pr v tv sv w e w' := by
  have hv' : (v : Int) < (d.nV : Int) := by omega
  have hG2 := hg.g.c2
  have hxc := hg.x.cell hv
  have HG := hide hg
  have HB := hide hb
  clear hg hb
  rcases HG.out.ca v hv with hr | ⟨cb, rl, hr, h2, h3, h4, h5, h6, h7, h8, h9⟩
  · rw [hr] at hxc
    have HR := hide hr
    clear hr
    obtain ⟨ao, cp, hsv⟩ : ∃ ao cp, sv = .slice ao 0 cp := by
      rcases HG.out.k.form with ⟨h, _⟩ | ⟨g, cap, h, _⟩
      · exact ⟨_, _, h⟩
      · exact ⟨_, _, h⟩
    subst hsv
    have hG7 := HG.out.g.c7
    have hG7z := HG.out.g.fz 7
    have e1 : IntKind.i64.wrap ((c : Int) + 1) = ((c + 1 : Nat) : Int) := by
      have := HB.out.2
      have := hok.v1
      rw [IntWalk.i64_in _ (by omega)]; omega
    have ha0 : (ao = none ∧ cp = 0) ∨ ∃ g, ao = some ⟨g, 0, none⟩ := by
      rcases HG.out.k.form with ⟨h, _⟩ | ⟨g, cap, h, _⟩
      · injection h with h1 h2 h3; exact .inl ⟨h1, h3⟩
      · injection h with h1 h2 h3; exact .inr ⟨g, h1⟩
    have HA := hide ha0
    clear ha0
    go_enter Yba.func37, Yba.ntmps37
    go_wp2_with fail
    have g1 : GI d b y S pr (w.setCell ⟨y.G, 7, none⟩ (.int .i64 ((c : Int) + 1))) tv (c + 1) (.slice ao 0 cp) rv sn [] [] := HG.out.calls hy (c + 1)
    have k1 : Kp (RM y tv (.slice ao 0 cp)) w (w.setCell ⟨y.G, 7, none⟩ (.int .i64 ((c : Int) + 1))) := (Kp.refl _ _).setCell (fun _ => .inl rfl) _
    generalize w.setCell ⟨y.G, 7, none⟩ (.int .i64 ((c : Int) + 1)) = w1 at *
    have r6 := g1.g.c6
    have r7 := g1.g.c7
    have rs := g1.s.cell hv
    have rz := g1.s.frozen v
    have G1 := hide g1
    have K1 := hide k1
    clear g1 k1
    go_region
    have g2 : GI d b y S pr (w1.setCell ⟨y.sB, v, none⟩ (.int .i64 ((c : Int) + 1))).drew tv (c + 1) (.slice ao 0 cp) rv (Plain.upd sn v ((c : Int) + 1)) [] [] := (G1.out.seen hy v _).drew
    have k2 : Kp (RM y tv (.slice ao 0 cp)) w (w1.setCell ⟨y.sB, v, none⟩ (.int .i64 ((c : Int) + 1))).drew := (K1.out.setCell (fun _ => .inr (.inr (.inr (.inl rfl)))) _).drew
    generalize (w1.setCell ⟨y.sB, v, none⟩ (.int .i64 ((c : Int) + 1))).drew = w2 at *
    have r8 := g2.g.c8
    have r8z := g2.g.fz 8
    have hw2 := g2.hS
    have G2 := hide g2
    have K2 := hide k2
    clear g2 k2 r6 r7 rs rz hw2
    go_wp2_with (at_builtin; (refine wpList_app _ rfl (.tmp 50) (.tmp 52) 33 48 rfl Yba.underlying33 (.int .i32 0) 1 4 info48 rfl (by omega) (by omega) (.slice ao 0 cp) 0 [] rfl (World.ownsRow.alloc G2.out.k _) w2.heap.size [.int .i32 (v : Int)] (heap_new_at _ _ _ rfl) rfl rfl (by simp [Value.oneCell']) (by omega) ?_))
    intro g cap w3 hown hkp0 hat hlt
    have hkp : Kp (fun k => (Value.slice ao 0 cp).ownBlock = some k) w2 w3 := ((Kp.refl _ _).alloc _).trans hkp0
    have ho3 : Own w3 48 g 1 cap [v] := hown
    have hat' : ∀ k, (Value.slice (some ⟨g, 0, none⟩) 1 cap).ownBlock = some k → (Value.slice ao 0 cp).ownBlock = some k ∨ w2.heap.size ≤ k := by
      intro k hk
      have hk' : g = k := by simpa [Value.ownBlock] using hk
      subst hk'
      rcases hat with h | h
      · exact .inl h
      · refine .inr ?_
        have : (w2.alloc (.cells #[.int .i32 (v : Int)] 48)).heap.size = w2.heap.size + 1 := by simp
        omega
    have g3 := G2.out.stack hy hkp (OV.of_own ho3) hat'
    have k3 : Kp (RM y tv (.slice ao 0 cp)) w (w3.setCell ⟨y.G, 8, none⟩ (.slice (some ⟨g, 0, none⟩) 1 cap)) := (K2.out.trans' hkp (fun i hi e => .inr (.inr (.inr (.inr (.inr e)))))).setCell (fun _ => .inl rfl) _
    have r8' := (hkp.gis G2.out.g (G2.out.kne.1)).c8
    have r8z' := (hkp.gis G2.out.g (G2.out.kne.1)).fz 8
    have G3 := hide g3
    have K3 := hide k3
    have hsz : w.heap.size ≤ w2.heap.size := K2.out.size
    have hat3 : ∀ k, (Value.slice (some ⟨g, 0, none⟩) 1 cap).ownBlock = some k → (Value.slice ao 0 cp).ownBlock = some k ∨ w.heap.size ≤ k := by
      intro k hk
      rcases hat' k hk with h | h
      · exact .inl h
      · exact .inr (by omega)
    have HAT := hide hat3
    clear g3 k3 hown hkp0 hat hlt hkp ho3 hat' hat3 r8 r8z hsz
    go_wp2
    generalize w3.setCell ⟨y.G, 8, none⟩ (.slice (some ⟨g, 0, none⟩) 1 cap) = w4 at *
    go_loopg [] ((d.ins v).length + 1) (fun k wr => Hid (L1 d b y S pr v tv (.slice ao 0 cp) w c rv k wr))
    case atStart =>
      refine hide ⟨[], [v], tv, _, _, G3.out, K3.out, fun k e => .inl e, HAT.out, upd_le (by omega) (fun u hu => by have := HB.out.1 u hu; omega), .inl ⟨rfl, rfl, rfl, ?_⟩⟩
      intro u hu
      have h1 := hok.ins v hv u hu
      have hne : u ≠ v := fun e => by rw [e] at h1; omega
      unfold Plain.upd
      rw [if_neg hne]
      exact HB.out.1 u h1.1
    case round =>
      have HL := hrel
      clear hrel G1 K1 G2 K2 G3 K3 HAT hG7 hG7z hG2 hxc e1 r8' r8z'
      obtain ⟨ps, stk, tv1, sv1, sn1, hg1, hk1, ht1, hs1, hn1, hor⟩ := HL.out
      rcases hor with ⟨hk, rfl, rfl, hsn⟩ | ⟨hk, hstk, hps⟩
      · rcases hg1.k.form with ⟨_, h⟩ | ⟨g1, cap1, hsv1, ho1⟩
        · cases h
        subst hsv1
        have r8 := hg1.g.c8
        have r8z := hg1.g.fz 8
        have rc : wr.cell? ⟨g1, 0, none⟩ = some (.int .i32 (v : Int)) := ho1.cell 0 (by simp)
        have HH := hide (And.intro ht1 (And.intro hs1 (And.intro hn1 (And.intro hsn hk))))
        have HG1 := hide hg1
        have HK1 := hide hk1
        have HO1 := hide ho1
        clear ht1 hs1 hn1 hsn hk hg1 hk1 ho1 HL
        go_wp2_with fail
        go_quiet (fail)
        go_wp2_with fail
        go_region
        have g5 : GI d b y S pr ((wr.drewN (nq + 1)).setCell ⟨y.G, 8, none⟩ (.slice (some ⟨g1, 0, none⟩) 0 cap1)) tv1 (c + 1) (.slice (some ⟨g1, 0, none⟩) 0 cap1) rv sn1 [] [] :=
          (HG1.out.drewN (nq + 1)).stack hy (Kp.refl _ _) (OV.of_own (HO1.out.take 0 (by omega))) (fun k e => .inl e)
        have k5 : Kp (RM y tv (.slice ao 0 cp)) w ((wr.drewN (nq + 1)).setCell ⟨y.G, 8, none⟩ (.slice (some ⟨g1, 0, none⟩) 0 cap1)) := (HK1.out.drewN _).setCell (fun _ => .inl rfl) _
        have k5b : Kp (RM y tv1 (.slice (some ⟨g1, 0, none⟩) 0 cap1)) wr ((wr.drewN (nq + 1)).setCell ⟨y.G, 8, none⟩ (.slice (some ⟨g1, 0, none⟩) 0 cap1)) := ((Kp.refl _ _).drewN _).setCell (fun _ => .inl rfl) _
        have s5 : ((wr.drewN (nq + 1)).setCell ⟨y.G, 8, none⟩ (.slice (some ⟨g1, 0, none⟩) 0 cap1)).heap.size = wr.heap.size := Deep.nblk_setCell _ _ _
        generalize (wr.drewN (nq + 1)).setCell ⟨y.G, 8, none⟩ (.slice (some ⟨g1, 0, none⟩) 0 cap1) = w5 at *
        have q2 := g5.g.c2
        have qx := g5.x.cell hv
        rw [HR.out] at qx
        have q0 := g5.g.c0
        have ql := view_cell (g5.st.l3 (by omega))
        have qn := view_cell (g5.st.node v hv)
        have FW := hide (find_walk d b y S ((c + 1 : Nat) : Int) (.slice (some ⟨g1, 0, none⟩) 0 cap1) tv1 (fps []) [] (d.node v) v w5 hy hok g5.g g5.f g5.t (hok.node v hv) rfl (by simp) g5.tne.1 g5.tne.2.2.1)
        have G5 := hide g5
        have K5 := hide k5
        have S5 := hide s5
        clear g5 k5 k5b s5 r8 r8z rc HG1 HK1 HO1
        go_wp2_with fail
        refine FW.out.mono ?_
        rintro e w6 hf
        obtain ⟨he, tv2, g6, k6, t6⟩ := G5.out.find hy hf
        subst he
        have k6' : Kp (RM y tv (.slice ao 0 cp)) w w6 := by
          refine K5.out.trans' k6 ?_
          rintro i hi (e | e | e | e | e | e)
          · exact .inl e
          · exact .inr (.inl e)
          · exact .inr (.inr (.inl e))
          · exact .inr (.inr (.inr (.inl e)))
          · rcases HH.out.1 i e with h | h
            · exact .inr (.inr (.inr (.inr (.inl h))))
            · omega
          · rcases HH.out.2.1 i e with h | h
            · exact .inr (.inr (.inr (.inr (.inr h))))
            · omega
        have t6' : ∀ k, tv2.ownBlock = some k → tv.ownBlock = some k ∨ w.heap.size ≤ k := by
          intro k hk
          rcases t6 k hk with h | h
          · exact HH.out.1 k h
          · have := K5.out.size; exact .inr (by omega)
        have q0 := g6.g.c0
        have ql := view_cell (g6.st.l3 (by omega))
        obtain ⟨qi, qr⟩ := g6.st.ins v hv
        have qi := view_cell qi
        have hil := hok.il v hv
        have HIL := hide hil
        have G6 := hide g6
        have K6 := hide k6'
        have T6 := hide t6'
        have QR := hide qr
        clear g6 k6 t6 k6' t6' qr q2 qx qn hf hil
        go_wp2_with fail
        have hcase : (d.ins v).length = 0 ∨ ∃ bb, b.iA v = some ⟨bb, 0, none⟩ := by
          by_cases h : (d.ins v).length = 0
          · exact .inl h
          · obtain ⟨bb, h1, _⟩ := QR.out 0 (by omega)
            exact .inr ⟨bb, h1⟩
        rcases hcase with h0 | ⟨bb, hbb⟩
        · have hnl : ¬ ((0 : Int) < ((d.ins v).length : Int)) := by omega
          have H0 := hide h0
          clear h0
          go_loopg [141] 0 (fun k i wq => i = .int .i64 0 ∧ wq = w6)
          case atStart => exact ⟨rfl, rfl⟩
          case round =>
            obtain ⟨rfl, rfl⟩ := hrel
            go_wp2
            go_roundg 0
            case measure => have := HH.out.2.2.2.2; omega
            case rel =>
              have e0 : d.ins v = [] := List.eq_nil_of_length_eq_zero H0.out
              refine hide ⟨_, _, tv2, _, sn1, G6.out, K6.out, T6.out, HH.out.2.1, HH.out.2.2.1, .inr ⟨Nat.zero_le _, ?_, ?_⟩⟩
              · rw [List.take_zero]
              · rw [e0]; rfl
        · rw [hbb]
          have HBB := hide hbb
          clear hbb
          go_loopg [141] (d.ins v).length (fun k i wq => ∃ q : Nat, q + k = (d.ins v).length ∧ i = .int .i64 q ∧ Hid (∃ sv3 sn3, GI d b y S pr wq tv2 (c + 1) sv3 rv sn3 [(d.node v, v)] ((d.ins v).take q) ∧ Kp (RM y tv (.slice ao 0 cp)) w wq ∧ (∀ k, sv3.ownBlock = some k → (Value.slice ao 0 cp).ownBlock = some k ∨ w.heap.size ≤ k) ∧ (∀ u, u < d.nV → sn3 u ≤ (c : Int) + 1) ∧ ∀ u, u ∈ (d.ins v).drop q → sn3 u ≤ (c : Int)))
          case atStart => exact ⟨0, by omega, rfl, hide ⟨.slice (some ⟨g1, 0, none⟩) 0 cap1, sn1, by rw [List.take_zero]; exact G6.out, K6.out, fun k e => HH.out.2.1 k e, HH.out.2.2.1, by rw [List.drop_zero]; exact HH.out.2.2.2.1⟩⟩
          case round =>
            obtain ⟨q, hq, rfl, HQ⟩ := hrel
            by_cases hlt : q < (d.ins v).length
            · have hlt' : (q : Int) < ((d.ins v).length : Int) := by omega
              obtain ⟨sv3, sn3, a1, a2, a3, a4, a5⟩ := HQ.out
              obtain ⟨bb', e1, hcell⟩ := (a1.st.ins v hv).2 q hlt
              have hcell := view_cell hcell
              rw [HBB.out] at e1
              injection e1 with e1
              injection e1 with e1 _ _
              subst e1
              obtain ⟨x, hx⟩ : ∃ x, (d.ins v).getD q 0 = x := ⟨_, rfl⟩
              have hxm : x ∈ d.ins v := by rw [← hx, List.getD_eq_getElem?_getD, List.getElem?_eq_getElem hlt]; exact List.getElem_mem _
              have hxd : x ∈ (d.ins v).drop q := by
                rw [List.drop_eq_getElem_cons hlt, ← hx, List.getD_eq_getElem?_getD, List.getElem?_eq_getElem hlt]
                exact List.mem_cons_self
              have hxs := a5 x hxd
              have hxv := (hok.ins v hv x hxm).1
              rw [hx] at hcell
              have p6 := a1.g.c6
              have p7 := a1.g.c7
              have ps := a1.s.cell hxv
              have pz := a1.s.frozen x
              have hxv' : (x : Int) < (d.nV : Int) := by omega
              have hne : ¬ (sn3 x = (c : Int) + 1) := by omega
              have hne2 : (sn3 x == (c : Int) + 1) = false := by simp [hne]
              have HX := hide (And.intro hx (And.intro hxm hxd))
              have A1 := hide a1
              have AA := hide (And.intro a2 (And.intro a3 (And.intro a4 a5)))
              clear hx hxm hxd a1 a2 a3 a4 a5 hxs HQ
              go_wp2_with fail
              go_quiet (fail)
              go_wp2_with fail
              go_region
              have g7 : GI d b y S pr ((wr.drewN (nq + 1)).setCell ⟨y.sB, x, none⟩ (.int .i64 ((c : Int) + 1))) tv2 (c + 1) sv3 rv (Plain.upd sn3 x ((c : Int) + 1)) [(d.node v, v)] ((d.ins v).take q) := (A1.out.drewN (nq + 1)).seen hy x _
              have k7 : Kp (RM y tv (.slice ao 0 cp)) w ((wr.drewN (nq + 1)).setCell ⟨y.sB, x, none⟩ (.int .i64 ((c : Int) + 1))) := (AA.out.1.drewN _).setCell (fun _ => .inr (.inr (.inr (.inl rfl)))) _
              generalize (wr.drewN (nq + 1)).setCell ⟨y.sB, x, none⟩ (.int .i64 ((c : Int) + 1)) = w7 at *
              have p8 := g7.g.c8
              have G7 := hide g7
              have K7 := hide k7
              have hql : q ≤ 1000 := by have := HIL.out; omega
              have HTL := hide (show ((d.ins v).take q).length = q by rw [List.length_take]; omega)
              clear g7 k7 p6 p7 ps pz hne hne2
              go_wp2_with (at_builtin; (refine wpList_app _ rfl (.tmp 171) (.tmp 173) 33 48 rfl Yba.underlying33 (.int .i32 0) 1 4 info48 rfl (by omega) (by omega) sv3 q (i32s ((d.ins v).take q)) rfl (World.ownsRow.alloc (G7.out.k.at HTL.out) _) w7.heap.size [.int .i32 (x : Int)] (heap_new_at _ _ _ rfl) rfl rfl (by simp [Value.oneCell']) hql ?_))
              intro g2 cap2 w8 hown hkp0 hat hlt2
              have hkp : Kp (fun k => sv3.ownBlock = some k) w7 w8 := ((Kp.refl _ _).alloc _).trans hkp0
              have ho8 := OV.snocN HTL.out hown
              have hat' : ∀ k, (Value.slice (some ⟨g2, 0, none⟩) (q + 1) cap2).ownBlock = some k → sv3.ownBlock = some k ∨ w7.heap.size ≤ k := by
                intro k hk
                have hk' : g2 = k := by simpa [Value.ownBlock] using hk
                subst hk'
                rcases hat with h | h
                · exact .inl h
                · refine .inr ?_
                  have : (w7.alloc (.cells #[.int .i32 (x : Int)] 48)).heap.size = w7.heap.size + 1 := by simp
                  omega
              have g8 := G7.out.stack hy hkp (OV.of_own ho8) hat'
              have k8 : Kp (RM y tv (.slice ao 0 cp)) w (w8.setCell ⟨y.G, 8, none⟩ (.slice (some ⟨g2, 0, none⟩) (q + 1) cap2)) := by
                refine (K7.out.trans' hkp ?_).setCell (fun _ => .inl rfl) _
                intro i hi e
                rcases AA.out.2.1 i e with h | h
                · exact .inr (.inr (.inr (.inr (.inr h))))
                · omega
              have r8' := (hkp.gis G7.out.g (G7.out.kne.1)).c8
              have r8z' := (hkp.gis G7.out.g (G7.out.kne.1)).fz 8
              have hsz7 : w.heap.size ≤ w7.heap.size := K7.out.size
              have hat3 : ∀ k, (Value.slice (some ⟨g2, 0, none⟩) (q + 1) cap2).ownBlock = some k → (Value.slice ao 0 cp).ownBlock = some k ∨ w.heap.size ≤ k := by
                intro k hk
                rcases hat' k hk with h | h
                · exact AA.out.2.1 k h
                · exact .inr (by omega)
              have G8 := hide g8
              have K8 := hide k8
              have HAT3 := hide hat3
              clear g8 k8 hown hkp0 hat hlt2 hkp ho8 hat' hat3 p8 hsz7
              go_wp2
              go_roundg ((d.ins v).length - (q + 1))
              case measure => omega
              case rel =>
                have e : (d.ins v).take q ++ [x] = (d.ins v).take (q + 1) := by
                  rw [List.take_add_one, List.getElem?_eq_getElem hlt, ← HX.out.1, List.getD_eq_getElem?_getD, List.getElem?_eq_getElem hlt]
                  rfl
                have hnd : (d.ins v).Nodup := by
                  have h1 := hok.nd v hv
                  exact List.Pairwise.of_map d.node (fun a b h e => h (by rw [e])) h1
                refine ⟨q + 1, by omega, by go_num, hide ⟨_, Plain.upd sn3 x ((c : Int) + 1), by rw [← e]; exact G8.out, K8.out, HAT3.out, upd_le (by omega) AA.out.2.2.1, ?_⟩⟩
                intro u hu
                unfold Plain.upd
                have hu2 : u ∈ (d.ins v).drop q := by rw [List.drop_eq_getElem_cons hlt]; exact List.mem_cons_of_mem _ hu
                have hne : u ≠ x := by
                  intro e2
                  have h3 : ((d.ins v).drop q).Nodup := hnd.sublist (List.drop_sublist _ _)
                  rw [List.drop_eq_getElem_cons hlt, List.nodup_cons] at h3
                  apply h3.1
                  have : (d.ins v)[q] = x := by rw [← HX.out.1, List.getD_eq_getElem?_getD, List.getElem?_eq_getElem hlt]; rfl
                  rw [this, ← e2]; exact hu
                rw [if_neg hne]
                exact AA.out.2.2.2 u hu2
            · have hnl : ¬ ((q : Int) < ((d.ins v).length : Int)) := by omega
              have hqe : q = (d.ins v).length := by omega
              have HQE := hide hqe
              clear hqe
              go_wp2
              go_roundg (d.ins v).length
              case measure => have := HH.out.2.2.2.2; omega
              case rel =>
                obtain ⟨sv3, sn3, a1, a2, a3, a4, a5⟩ := HQ.out
                rw [HQE.out] at a1
                refine hide ⟨_, _, tv2, sv3, sn3, a1, a2, T6.out, a3, a4, .inr ⟨Nat.le_refl _, rfl, ?_⟩⟩
                rw [List.drop_length]
                rfl
      · by_cases h0 : gk = 0
        · subst h0
          rw [List.take_zero] at hstk
          subst hstk
          rw [List.drop_zero] at hps
          have hpr : ps.Perm (rest d v) := by rw [hps]; unfold rest; rw [List.map_reverse]; exact List.Perm.cons _ (List.reverse_perm _)
          have hpnd : (ps.map (·.1)).Nodup := (hpr.map (·.1)).nodup_iff.2 (rest_nodup hok hv)
          have hplen : ps.length ≤ 4 := by rw [hpr.length_eq]; exact rest_len hok hv
          have hpos : 1 ≤ ps.length := by rw [hps]; simp
          obtain ⟨ao1, cp1, hsv1⟩ : ∃ ao1 cp1, sv1 = .slice ao1 0 cp1 := by
            rcases hg1.k.form with ⟨h, _⟩ | ⟨g, cap, h, _⟩
            · exact ⟨_, _, h⟩
            · exact ⟨_, _, h⟩
          subst hsv1
          rcases hg1.t.form with ⟨_, h⟩ | ⟨tg, tcap, htv1, hto⟩
          · have : ps.length = 0 := by rw [← List.length_map (f := (·.1)), h]; rfl
            omega
          rw [List.length_map] at htv1 hto
          obtain ⟨T, hT⟩ : ∃ T, ps.length = T := ⟨_, rfl⟩
          rw [hT] at htv1 hto hplen hpos
          subst htv1
          have r8 := hg1.g.c8
          have r5 := hg1.g.c5
          have SW := hide (sort_walk tg T tcap (ps.map (·.1)) wr (by omega) hto)
          have HG1 := hide hg1
          have HK1 := hide hk1
          have HH := hide (And.intro ht1 (And.intro hs1 (And.intro hn1 (And.intro hpr (And.intro hpnd (And.intro hT hps))))))
          have HTO := hide hto
          clear ht1 hs1 hn1 hpr hpnd hT hps hg1 hk1 hto HL hk
          go_wp2_with fail
          refine SW.out.mono ?_
          rintro e w1 ⟨rfl, ⟨ys, hperm, ho1⟩, kp1⟩
          have htb := HG1.out.tb tg rfl
          have m0 := mem_fix y
          have gis1 := kp1.gis HG1.out.g (fun e => htb.1 (e ▸ m0.1))
          have r5 := gis1.c5
          have hmk := make133 T (by omega)
          obtain ⟨f0, hf0⟩ := rowIs_new w1 (madeCells #[.int .i32 0, .int .i32 0] (T * 2)) 137 (T * 2) (by rw [size_madeCells])
          have H1 := hide (And.intro hperm (And.intro ho1 (And.intro kp1 (And.intro gis1 (And.intro htb hf0)))))
          have hylen := ho1.len
          have ka : Kp (fun _ => False) w1 (w1.alloc (.cells (madeCells #[.int .i32 0, .int .i32 0] (T * 2)) 137)) := (Kp.refl _ _).alloc _
          have hw2s : (w1.alloc (.cells (madeCells #[.int .i32 0, .int .i32 0] (T * 2)) 137)).heap.size = w1.heap.size + 1 := by simp
          have r5a := (ka.gis gis1 id).c5
          have KA := hide ka
          have HW2 := hide hw2s
          clear hperm ho1 kp1 gis1 htb hf0 ka hw2s
          go_wp2_with fail
          generalize w1.alloc (.cells (madeCells #[.int .i32 0, .int .i32 0] (T * 2)) 137) = w2a at *
          obtain ⟨rb, hrb⟩ : ∃ rb, w1.heap.size = rb := ⟨_, rfl⟩
          rw [hrb]
          have HRB := hide hrb
          clear hrb hmk r5 r8
          go_loopg [194] T (fun k i wq => ∃ q : Nat, q + k = T ∧ i = .int .i64 q ∧ Hid (Kp (fun k => k = rb ∨ k = y.fB) w2a wq ∧ wq.rowIs y.fB 48 (d.nM + 2) (fun n => .int .i32 (if n ∈ ys.take q then -1 else fps ps n)) ∧ (∃ f, wq.rowIs rb 137 (T * 2) f) ∧
            ∀ j, j < q → wq.cell? ⟨rb, j * 2, none⟩ = some (.int .i32 ((ys.getD j 0 : Nat) : Int)) ∧ wq.cell? ⟨rb, j * 2 + 1, none⟩ = some (.int .i32 (fps ps (ys.getD j 0)))))
          case atStart =>
            obtain ⟨hperm, ho1, kp1, gis1, htb, hf0⟩ := H1.out
            have m0 := mem_fix y
            refine ⟨0, by omega, rfl, hide ⟨Kp.refl _ _, ?_, ⟨f0, ?_⟩, fun j hj => by omega⟩⟩
            · refine (KA.out.rowIs (kp1.rowIs HG1.out.f (fun e => htb.1 (e ▸ m0.2.2.2.1))) id).congr ?_
              intro i hi
              simp
            · rw [← HRB.out]; exact hf0
          case round =>
            obtain ⟨hperm, ho1, kp1, gis1, htb, hf0⟩ := H1.out
            have m0 := mem_fix y
            have hsz1 : w1.heap.size = rb := HRB.out
            have hGlt := gis1.lt
            have hrG : rb ≠ y.G := by omega
            have hflt : y.fB < w1.heap.size := by have := HG1.out.fx y.fB m0.2.2.2.1; have := kp1.size; omega
            have hrf : rb ≠ y.fB := by omega
            have htr : tg ≠ rb := by have := ho1.lt; omega
            have htf : tg ≠ y.fB := fun e => htb.1 (e ▸ m0.2.2.2.1)
            have hGf : y.G ≠ y.fB := hy.ne.2.2.1
            obtain ⟨q, hq, rfl, HQ⟩ := hrel
            by_cases hlt : q < T
            · have hlt' : (q : Int) < (T : Int) := by omega
              obtain ⟨a1, a2, ⟨ff, a3⟩, a4⟩ := HQ.out
              obtain ⟨n, hn⟩ : ∃ n, ys.getD q 0 = n := ⟨_, rfl⟩
              have hnm : n ∈ ys := by rw [← hn, List.getD_eq_getElem?_getD, List.getElem?_eq_getElem (by omega)]; exact List.getElem_mem _
              have hnN : n < d.nM + 2 := by
                have h1 : n ∈ ps.map (·.1) := hperm.mem_iff.1 hnm
                obtain ⟨⟨n', x'⟩, h2, h3⟩ := List.mem_map.1 h1
                have h4 := rest_mem hok hv (HH.out.2.2.2.1.mem_iff.1 h2)
                have h3' : n' = n := h3
                omega
              have hynd : ys.Nodup := hperm.nodup_iff.2 HH.out.2.2.2.2.1
              have hnt : n ∉ ys.take q := by
                intro h
                have h1 : ys = ys.take q ++ ys.drop q := (List.take_append_drop _ _).symm
                rw [h1, List.nodup_append] at hynd
                refine hynd.2.2 n h n ?_ rfl
                rw [List.drop_eq_getElem_cons (by omega : q < ys.length)]
                have : ys[q]'(by omega) = n := by rw [← hn, List.getD_eq_getElem?_getD, List.getElem?_eq_getElem (by omega)]; rfl
                rw [this]; exact List.mem_cons_self
              have c4 := (a1.gis (KA.out.gis gis1 id) (fun e => by rcases e with e | e; exact hrG e.symm; exact hGf e)).c4
              have ct := (a1.own (KA.out.own ho1 id) (fun e => by rcases e with e | e; exact htr e; exact htf e)).cell q hlt
              rw [hn] at ct
              have cf := a2.cell hnN
              simp only [if_neg hnt] at cf
              have zf := a2.frozen n
              have cr0 := a3.cell (i := q * 2) (by omega)
              have cr1 := a3.cell (i := q * 2 + 1) (by omega)
              have zr0 := a3.frozen (q * 2)
              have zr1 := a3.frozen (q * 2 + 1)
              have hnN' : (n : Int) < (d.nM : Int) + 2 := by omega
              have b3 := (a3.set (q * 2) (.int .i32 (n : Int))).set (q * 2 + 1) (.int .i32 (fps ps n))
              have kb : Kp (fun k => k = rb) wr ((wr.setCell ⟨rb, q * 2, none⟩ (.int .i32 (n : Int))).setCell ⟨rb, q * 2 + 1, none⟩ (.int .i32 (fps ps n))) := ((Kp.set1 wr rb (q * 2) _).setCell (fun _ => rfl) _)
              have c4b := (kb.gis (a1.gis (KA.out.gis gis1 id) (fun e => by rcases e with e | e; exact hrG e.symm; exact hGf e)) (fun e => hrG e.symm)).c4
              have a2b := kb.rowIs a2 (fun e => hrf e.symm)
              have cfb := a2b.cell hnN
              have zfb := a2b.frozen n
              have HN := hide (And.intro hn (And.intro hnm (And.intro hnt hynd)))
              have AA := hide (And.intro a1 (And.intro a2 (And.intro a3 (And.intro a4 (And.intro b3 (And.intro kb a2b))))))
              have HP := hide hperm
              clear a1 a2 a3 a4 b3 kb a2b hn hnm hnt hynd HQ hperm ho1 kp1 gis1 htb hf0 m0 hsz1 hGlt hflt
              go_wp2
              go_roundg (T - (q + 1))
              case measure => omega
              case rel =>
                obtain ⟨a1, a2, a3, a4, b3, kb, a2b⟩ := AA.out
                obtain ⟨hn, hnm, hnt, hynd⟩ := HN.out
                have htake : ys.take (q + 1) = ys.take q ++ [n] := by
                  rw [List.take_add_one, List.getElem?_eq_getElem (by omega), ← hn, List.getD_eq_getElem?_getD, List.getElem?_eq_getElem (by omega)]; rfl
                refine ⟨q + 1, by omega, by go_num, hide ⟨?_, ?_, ⟨_, b3.setOther hrf _⟩, ?_⟩⟩
                · exact (a1.trans' kb (fun i _ e => .inl e)).setCell (fun _ => .inr rfl) _
                · refine (a2b.set n _).congr ?_
                  intro i hi
                  rw [htake]
                  by_cases e : i = n
                  · subst e; simp
                  · rw [if_neg e]
                    simp only [List.mem_append, List.mem_singleton, e, or_false]
                · intro j hj
                  by_cases e : j = q
                  · subst e
                    rw [hn]
                    have e1 := (b3.setOther (a := ⟨y.fB, n, none⟩) hrf (.int .i32 (-1))).cell (i := j * 2) (by omega)
                    have e2 := (b3.setOther (a := ⟨y.fB, n, none⟩) hrf (.int .i32 (-1))).cell (i := j * 2 + 1) (by omega)
                    simp only [if_true, if_neg (show ¬ (j * 2 = j * 2 + 1) by omega)] at e1 e2
                    exact ⟨e1, e2⟩
                  · have h4 := a4 j (by omega)
                    have e1 := (b3.setOther (a := ⟨y.fB, n, none⟩) hrf (.int .i32 (-1))).cell (i := j * 2) (by omega)
                    have e2 := (b3.setOther (a := ⟨y.fB, n, none⟩) hrf (.int .i32 (-1))).cell (i := j * 2 + 1) (by omega)
                    rw [if_neg (by omega), if_neg (by omega), ← a3.cell (by omega), h4.1] at e1
                    rw [if_neg (by omega), if_neg (by omega), ← a3.cell (by omega), h4.2] at e2
                    exact ⟨e1, e2⟩
            · have hnl : ¬ ((q : Int) < (T : Int)) := by omega
              obtain rfl : q = T := by omega
              obtain ⟨a1, a2, ⟨ff, a3⟩, a4⟩ := HQ.out
              have gisq := a1.gis (KA.out.gis gis1 id) (fun e => by rcases e with e | e; exact hrG e.symm; exact hGf e)
              have c5 := gisq.c5
              have z5 := gisq.fz 5
              have xlt : y.xB < w1.heap.size := by have := HG1.out.fx y.xB m0.2.1; have := kp1.size; omega
              have hxr : y.xB ≠ rb := by omega
              have hxt : y.xB ≠ tg := fun e => htb.1 (e ▸ m0.2.1)
              have hxf : y.xB ≠ y.fB := hy.ne.2.2.2.2.2.2.2.1
              have hxG : y.xB ≠ y.G := fun e => hy.ne.1 e.symm
              have xq : wr.rowIs y.xB 133 d.nV rv := a1.rowIs (KA.out.rowIs (kp1.rowIs HG1.out.x hxt) id) (fun e => by rcases e with e | e; exact hxr e; exact hxf e)
              have kG := Kp.set1 wr y.G 5 (.slice (some ⟨tg, 0, none⟩) 0 tcap)
              have gis2 := gisq.set5 (.slice (some ⟨tg, 0, none⟩) 0 tcap)
              have c2 := gis2.c2
              have xq2 := kG.rowIs xq hxG
              have cx := xq2.cell hv
              have zx := xq2.frozen v
              have AA := hide (And.intro a1 (And.intro a2 (And.intro a3 (And.intro a4 (And.intro gisq (And.intro xq (And.intro kG (And.intro gis2 xq2))))))))
              have HP := hide hperm
              clear a1 a2 a3 a4 gisq xq kG gis2 xq2 HQ hperm ho1 kp1 gis1 htb hf0 m0
              go_wp2
              go_ret
              obtain ⟨a1, a2, a3, a4, gisq, xq, kG, gis2, xq2⟩ := AA.out
              obtain ⟨hperm, ho1, kp1, gis1, htb, hf0⟩ := H1.out
              exact restsOn_done hok hy hv HB.out HR.out HG1.out HK1.out HH.out.1 HH.out.2.1 HH.out.2.2.1 HH.out.2.2.2.1 HH.out.2.2.2.2.1 hperm ho1 kp1 KA.out (by rw [HW2.out, HRB.out]) HRB.out a1 a2 a3 a4
        · obtain ⟨m, hm⟩ : ∃ m, gk = m + 1 := ⟨gk - 1, by omega⟩
          have hml : m < (d.ins v).length := by omega
          obtain ⟨u, hu⟩ : ∃ u, (d.ins v)[m] = u := ⟨_, rfl⟩
          have hum : u ∈ d.ins v := by rw [← hu]; exact List.getElem_mem _
          obtain ⟨huv, hui, hun, hvn⟩ := hok.ins v hv u hum
          have hlen : stk.length = gk := by rw [hstk, List.length_take]; omega
          have hsplit : stk = (d.ins v).take m ++ [u] := by rw [hstk, hm, List.take_add_one, List.getElem?_eq_getElem hml, hu]; rfl
          have hcell0 : stk.getD m 0 = u := by
            rw [hstk, hm, List.getD_eq_getElem?_getD, List.getElem?_take, if_pos (by omega), List.getElem?_eq_getElem hml, hu]; rfl
          have htk : stk.take m = (d.ins v).take m := by rw [hstk, List.take_take]; congr 1; omega
          have hpsd : ps ++ [(d.node u, u)] = (d.node v, v) :: (((d.ins v).drop m).reverse.map (pair d)) := by
            rw [hps, List.drop_eq_getElem_cons hml, List.reverse_cons, List.map_append, hu, ← hm]
            rfl
          have hfu : fps ps (d.node u) = -1 := by
            apply fps_none
            have h1 := rest_nodup hok hv
            have h2 : (((d.node v, v) :: ((d.ins v).map (pair d))).map (·.1)).Nodup := h1
            have hp : (ps ++ [(d.node u, u)]).Perm ((d.node v, v) :: (((d.ins v).drop m).map (pair d))) := by
              rw [hpsd, List.map_reverse]
              exact List.Perm.cons _ (List.reverse_perm _)
            have h3 : ((ps ++ [(d.node u, u)]).map (·.1)).Nodup := by
              refine (hp.map (·.1)).nodup_iff.2 ?_
              refine h2.sublist (List.Sublist.map _ (List.Sublist.cons_cons _ (List.Sublist.map _ (List.drop_sublist _ _))))
            rw [List.map_append, List.nodup_append] at h3
            intro hmem
            exact h3.2.2 _ hmem _ (by simp) rfl
          have hpl : ps.length ≤ 100 := by
            rw [hps]
            have := hok.il v hv
            simp
            omega
          rcases hg1.k.form with ⟨_, h⟩ | ⟨g1, cap1, hsv1, ho1⟩
          · rw [h] at hlen; simp at hlen; omega
          rw [hlen] at hsv1 ho1
          subst hsv1
          have hcap : gk ≤ cap1 := by
            rcases ho1.2 with ⟨hv, _⟩ | ⟨g', cap', cur, hv, hb, hg, hnc, rest⟩
            · cases hv
            · injection hv with h1 h2 h3; omega
          have rc := ho1.cell m (by omega)
          rw [hcell0] at rc
          have r8 := hg1.g.c8
          have r8z := hg1.g.fz 8
          have hd1 : (0 : Int) < (gk : Int) := by omega
          have hd1n : 0 < gk := by omega
          have hd2 : IntKind.i64.wrap ((gk : Int) - 1) = (m : Int) := by
            have := hok.il v hv
            rw [IntWalk.i64_in _ (by omega)]; omega
          have hd3 : (m : Int) < (gk : Int) := by omega
          have hd4 : (m : Int) ≤ (cap1 : Int) := by omega
          have hd5 : (0 : Int) ≤ (m : Int) := by omega
          have hgi : GI d b y S pr wr tv1 (c + 1) (.slice (some ⟨g1, 0, none⟩) gk cap1) rv sn1 ps stk := hg1
          have HH := hide (And.intro ht1 (And.intro hs1 (And.intro hn1 (And.intro hpsd (And.intro hfu (And.intro hpl (And.intro hm hml)))))))
          have HG1 := hide hgi
          have HK1 := hide hk1
          have HO1 := hide ho1
          have HTK := hide htk
          have huv' : (u : Int) < (d.nV : Int) := by omega
          clear ht1 hs1 hn1 hpsd hfu hpl hm hml hg1 hgi hk1 ho1 htk HL hcell0 hsplit hlen hum hu hstk hps hk h0
          go_wp2_with fail
          go_quiet (fail)
          go_wp2_with fail
          go_region
          have g5 : GI d b y S pr ((wr.drewN (nq + 1)).setCell ⟨y.G, 8, none⟩ (.slice (some ⟨g1, 0, none⟩) m cap1)) tv1 (c + 1) (.slice (some ⟨g1, 0, none⟩) m cap1) rv sn1 ps ((d.ins v).take m) := by
            have h1 := HO1.out.take m (by have := HH.out.2.2.2.2.2.2.1; omega)
            rw [HTK.out] at h1
            exact (HG1.out.drewN (nq + 1)).stack hy (Kp.refl _ _) (OV.of_own h1) (fun k e => .inl e)
          have k5 : Kp (RM y tv (.slice ao 0 cp)) w ((wr.drewN (nq + 1)).setCell ⟨y.G, 8, none⟩ (.slice (some ⟨g1, 0, none⟩) m cap1)) := (HK1.out.drewN _).setCell (fun _ => .inl rfl) _
          generalize (wr.drewN (nq + 1)).setCell ⟨y.G, 8, none⟩ (.slice (some ⟨g1, 0, none⟩) m cap1) = w5 at *
          have FW := hide (find_walk d b y S ((c + 1 : Nat) : Int) (.slice (some ⟨g1, 0, none⟩) m cap1) tv1 (fps ps) (ps.map (·.1)) (d.node u) u w5 hy hok g5.g g5.f g5.t (hok.node u huv) HH.out.2.2.2.2.1 (by rw [List.length_map]; exact HH.out.2.2.2.2.2.1) g5.tne.1 g5.tne.2.2.1)
          have q2 := g5.g.c2
          have qx := g5.x.cell huv
          have hca := g5.ca u huv
          have G5 := hide g5
          have K5 := hide k5
          have after : ∀ w6 tv2, GI d b y S pr w6 tv2 (c + 1) (.slice (some ⟨g1, 0, none⟩) m cap1) rv sn1 (ps ++ [(d.node u, u)]) ((d.ins v).take m) → Kp (RM y tv1 (.slice (some ⟨g1, 0, none⟩) m cap1)) w5 w6 → (∀ k, tv2.ownBlock = some k → tv1.ownBlock = some k ∨ w5.heap.size ≤ k) → L1 d b y S pr v tv (.slice ao 0 cp) w c rv m w6 := by
            intro w6 tv2 g6 k6 t6
            refine ⟨_, _, tv2, _, sn1, g6, ?_, ?_, HH.out.2.1, HH.out.2.2.1, .inr ⟨?_, rfl, HH.out.2.2.2.1⟩⟩
            · refine K5.out.trans' k6 ?_
              rintro i hi (e | e | e | e | e | e)
              · exact .inl e
              · exact .inr (.inl e)
              · exact .inr (.inr (.inl e))
              · exact .inr (.inr (.inr (.inl e)))
              · rcases HH.out.1 i e with h | h
                · exact .inr (.inr (.inr (.inr (.inl h))))
                · omega
              · rcases HH.out.2.1 i e with h | h
                · exact .inr (.inr (.inr (.inr (.inr h))))
                · omega
            · intro k hk
              rcases t6 k hk with h | h
              · exact HH.out.1 k h
              · have := K5.out.size; exact .inr (by omega)
            · have := HH.out.2.2.2.2.2.2.2; omega
          have AF := hide after
          clear after g5 k5 r8 r8z rc HG1 HK1 HO1
          rcases hca with hnil | ⟨cb, rl, hrl, h2, h3, h4, h5, h6, h7, h8, h9⟩
          · rw [hnil] at qx
            have q0 := G5.out.g.c0
            have ql := view_cell (G5.out.st.l3 (by omega))
            have qn := view_cell (G5.out.st.node u huv)
            have HNIL := hide hnil
            clear hnil
            go_wp2_with fail
            refine FW.out.mono ?_
            rintro e w6 hf
            obtain ⟨he, tv2, g6, k6, t6⟩ := G5.out.find hy hf
            subst he
            have q0 := g6.g.c0
            have ql := view_cell (g6.st.l3 (by omega))
            have qi := view_cell (g6.st.ins u huv).1
            rw [hui] at qi
            have HW := hide (AF.out w6 tv2 g6 k6 t6)
            clear g6 k6 t6 hf q2 qx qn
            go_wp2_with fail
            go_loopg [141] 0 (fun k i wq => i = .int .i64 0 ∧ wq = w6)
            case atStart => exact ⟨rfl, rfl⟩
            case round =>
              obtain ⟨rfl, rfl⟩ := hrel
              go_wp2
              go_roundg m
              case measure => have := HH.out.2.2.2.2.2.2.1; omega
              case rel => exact HW
          · have hrl1 : rl = [(d.node u, u)] := by
              have e : rest d u = [(d.node u, u)] := by unfold rest; rw [hui]; rfl
              rw [e] at h2
              exact List.perm_singleton.1 h2
            subst hrl1
            rw [hrl] at qx
            have qc0 := (h3 0 (by simp)).1
            have qc1 := (h3 0 (by simp)).2
            have qc0 : w5.cell? ⟨cb, 0, none⟩ = some (.int .i32 ((d.node u : Nat) : Int)) := qc0
            have qc1 : w5.cell? ⟨cb, 1, none⟩ = some (.int .i32 (u : Int)) := qc1
            have HC := hide hrl
            clear hrl h2 h3 h4 h5 h6 h7 h8 h9
            go_wp2_with fail
            go_loopg [104] 1 (fun k i wq => (k = 1 ∧ i = .int .i64 0 ∧ wq = w5) ∨ (k = 0 ∧ i = .int .i64 1 ∧ Hid (L1 d b y S pr v tv (.slice ao 0 cp) w c rv m wq)))
            case atStart => exact .inl ⟨rfl, rfl, rfl⟩
            case round =>
              rcases hrel with ⟨rfl, rfl, rfl⟩ | ⟨rfl, rfl, HW⟩
              · have ga := G5.out.alloc hy (.cells #[.int .i32 ((d.node u : Nat) : Int), .int .i32 (u : Int)] 137)
                have ka : Kp (RM y tv1 (.slice (some ⟨g1, 0, none⟩) m cap1)) wr (wr.alloc (.cells #[.int .i32 ((d.node u : Nat) : Int), .int .i32 (u : Int)] 137)) := (Kp.refl _ _).alloc _
                have FA := hide (find_walk d b y S ((c + 1 : Nat) : Int) (.slice (some ⟨g1, 0, none⟩) m cap1) tv1 (fps ps) (ps.map (·.1)) (d.node u) u _ hy hok ga.g ga.f ga.t (hok.node u huv) HH.out.2.2.2.2.1 (by rw [List.length_map]; exact HH.out.2.2.2.2.2.1) ga.tne.1 ga.tne.2.2.1)
                have GA := hide ga
                have KA := hide ka
                clear ga ka
                go_wp2_with fail
                refine FA.out.mono ?_
                rintro e w6 hf
                obtain ⟨he, tv2, g6, k6, t6⟩ := GA.out.find hy hf
                subst he
                have hsza : (wr.alloc (.cells #[.int .i32 ((d.node u : Nat) : Int), .int .i32 (u : Int)] 137)).heap.size = wr.heap.size + 1 := by simp
                have HW := hide (AF.out w6 tv2 g6 (KA.out.trans k6) (fun k e => by
                  rcases t6 k e with h | h
                  · exact .inl h
                  · exact .inr (by omega)))
                clear g6 k6 t6 hf hsza
                go_wp2
                go_roundg 0
                case measure => omega
                case rel => exact .inr ⟨rfl, rfl, HW⟩
              · go_wp2
                go_roundg m
                case measure => have := HH.out.2.2.2.2.2.2.1; omega
                case rel => exact HW
  · rw [hr] at hxc
    have HH := hide (And.intro h2 (And.intro h3 (And.intro h4 (And.intro h5 (And.intro h6 (And.intro h7 (And.intro h8 h9)))))))
    clear h2 h3 h4 h5 h6 h7 h8 h9 hr
    go_enter Yba.func37, Yba.ntmps37
    go_wp2
    go_ret
    obtain ⟨h2, h3, h4, h5, h6, h7, h8, h9⟩ := HH.out
    exact ⟨cb, rl, tv, c, sv, rv, sn, rfl, h2, h3, h4, h5, h6, h7, h8, h9, HG.out, HB.out, Kp.refl _ _, fun k e => .inl e, fun k e => .inl e⟩
end Go.Proofs.Ybulkctjg
