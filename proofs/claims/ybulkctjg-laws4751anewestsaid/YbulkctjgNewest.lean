import Derived.Test.YbulkctjgFrom
import Derived.Test.YbulkctjgCands
namespace Go.Proofs.Ybulkctjg
open Go.RowKit
set_option linter.unusedVariables false

def MapIs (w : World) (mb : Nat) (nm : Nat → ByteArray) (N : Nat) : Prop :=
  mb < w.heap.size ∧ ∀ w' : World, w'.heap[mb]? = w.heap[mb]? → ∀ n, n < N → (Instr.lookup 38 (.map (some mb)) (.string (nm n)) false).run Yba.prog w' = .ok (.int .i32 (n : Int)) w'
theorem Kp.mapIs {M : Nat → Prop} {u v : World} {mb N : Nat} {nm : Nat → ByteArray} (k : Kp M u v) (h : MapIs u mb nm N) (hm : ¬ M mb) : MapIs v mb nm N :=
  ⟨Nat.lt_of_lt_of_le h.1 k.size, fun w' e n hn => h.2 w' (e.trans (k.block mb h.1 hm)) n hn⟩

theorem GI.kpk {d : D} {b : Bk} {y : Dy} {S : Nat} {pr : Nat → Prop} {w w' : World} {tv : Value} {c : Nat} {sv : Value} {rv : Nat → Value} {sn : Nat → Int} {ps : List (Nat × Nat)} {stk : List Nat}
    (h : GI d b y S pr w tv c sv rv sn ps stk) (hy : y.Ok S) (k : Kp (fun k => k = y.kB) w w') : GI d b y S (fun k => pr k ∨ (w.heap.size ≤ k ∧ k < w'.heap.size)) w' tv c sv rv sn ps stk := by
  obtain ⟨m1, m2, m3, m4, m5, m6, m7⟩ := mem_fix y
  obtain ⟨a1, a2, a3, a4, a5, a6, a7, a8, a9, a10, a11, a12, a13, a14, a15, a16, a17, a18, a19, a20, a21⟩ := hy.ne
  refine ⟨?_, Nat.le_trans h.hS k.size, k.gis h.g (fun e => a2 e), k.rowIs h.x (fun e => a7 e), k.rowIs h.f (fun e => a12 e.symm), k.rowIs h.s (fun e => a13 e.symm), k.ov h.t (fun b hb e => (h.tb b hb).1 (e ▸ m3)), k.ov h.k (fun b hb e => (h.kb b hb).1 (e ▸ m3)), ?_, ?_, ?_, fun k' hk => Nat.lt_of_lt_of_le (h.fx k' hk) k.size, ?_, ?_⟩
  · rw [k.view h.hS (fun i e => by rw [e]; exact hy.ge _ m3)]; exact h.st
  · intro j e
    obtain ⟨h1, h2, h3, h4⟩ := h.tb j e
    refine ⟨h1, h2, ?_, h4⟩
    rintro (e2 | e2)
    · exact h3 e2
    · have := h.t.lt j e; omega
  · intro j e
    obtain ⟨h1, h2, h3⟩ := h.kb j e
    refine ⟨h1, h2, ?_⟩
    rintro (e2 | e2)
    · exact h3 e2
    · have := h.k.lt j e; omega
  · intro v hv
    rcases h.ca v hv with h1 | ⟨cb, rl, h1, h2, h3, h4, h5, h6, h7, h8, h9⟩
    · exact .inl h1
    · refine .inr ⟨cb, rl, h1, h2, h3.kp k (fun e => h4 (e ▸ m3)), h4, h5, Nat.lt_of_lt_of_le h6 k.size, ?_, h8, h9⟩
      rintro (e2 | e2)
      · exact h7 e2
      · omega
  · rintro j (e | e)
    · exact Nat.lt_of_lt_of_le (h.pl j e) k.size
    · exact e.2
  · rintro j (e | e)
    · exact h.pf j e
    · exact .inl (fun hm => by have := h.fx j hm; omega)

def NPost (d : D) (b : Bk) (y : Dy) (S k : Nat) (ix0 : Nat → Nat) (pr0 : Nat → Prop) (w : World) (e : Ending) (w' : World) : Prop :=
  Kp (fun k => ¬ pr0 k) w w' ∧ w'.rowIs y.tB 48 (d.nM + 2) (fun _ => .int .i32 (-1)) ∧ (∃ tv' c' sv', Gis d b y tv' c' sv' w') ∧ Stat d b (view S w') ∧ S ≤ w'.heap.size ∧
  ((∃ ix pB, Plain.First k (fun j => cand d (ix0 j)) (rest d) ix ∧ e = .returned (.tuple #[.slice (some ⟨pB, 0, none⟩) k k, .bool true]) ∧ w'.rowIs pB 48 k (fun j => .int .i32 ((Plain.val (fun j => cand d (ix0 j)) ix j : Nat) : Int))) ∨
   (e = .returned (.tuple #[.slice none 0 0, .bool false]) ∧ ∀ iy, Plain.Valid k (fun j => cand d (ix0 j)) iy → ¬ Plain.Cons k (rest d) (Plain.val (fun j => cand d (ix0 j)) iy)))

/-- the search as newest makes it -/
structure NS (d : D) (y : Dy) (q : Sq) (o : Obj) (w wz : World) : Prop where
  nw : wz.heap[w.heap.size]? = some o
  kp : Kp (fun _ => False) w wz
  hq : Qis d y q (.slice none 0 0) wz
  c : wz.rowIs q.cB 33 q.k (fun _ => .slice none 0 0)
  p : wz.rowIs q.pB 48 q.k (fun _ => .int .i32 0)
  ge : w.heap.size ≤ q.Q ∧ w.heap.size ≤ q.cB ∧ w.heap.size ≤ q.pB
  ne : q.Q ≠ q.cB ∧ q.Q ≠ q.pB ∧ q.cB ≠ q.pB

theorem ns_drew {u : World} {G : Nat} {x1 x2 : Value} (h1 : u.cell? ⟨G, 9, none⟩ = some x1) (h2 : u.cell? ⟨G, 10, none⟩ = some x2) : u.drew.cell? ⟨G, 9, none⟩ = some x1 ∧ u.drew.cell? ⟨G, 10, none⟩ = some x2 := ⟨h1, h2⟩
theorem ns_alloc {u : World} {G : Nat} {x1 x2 : Value} {o : Obj} (h : u.cell? ⟨G, 9, none⟩ = some x1 ∧ u.cell? ⟨G, 10, none⟩ = some x2) : (u.alloc o).cell? ⟨G, 9, none⟩ = some x1 ∧ (u.alloc o).cell? ⟨G, 10, none⟩ = some x2 := by
  have k : Kp (fun _ => False) u (u.alloc o) := (Kp.refl _ _).alloc o
  exact ⟨k.cell h.1 id, k.cell h.2 id⟩

theorem ns_mk1 (d : D) (y : Dy) (w : World) (k : Nat) (o : Obj) : NS d y ⟨w.heap.size + 1 + 1 + 1, w.heap.size + 1, w.heap.size + 1 + 1, k⟩ o w
    (((((w.alloc o).alloc (.cells (madeCells #[.slice none 0 0] k) 33)).alloc (.cells (madeCells #[.int .i32 0] k) 48)).alloc (.cells (qC d y ⟨w.heap.size + 1 + 1 + 1, w.heap.size + 1, w.heap.size + 1 + 1, k⟩ (.slice none 0 0)) 110)).drew) := by
  have h1 : (w.alloc o).heap.size = w.heap.size + 1 := by simp
  have h2 : ((w.alloc o).alloc (.cells (madeCells #[.slice none 0 0] k) 33)).heap.size = w.heap.size + 1 + 1 := by simp
  have r1 := World.rowIs_made (w.alloc o) (.slice none 0 0) k 33
  have r2 := World.rowIs_made ((w.alloc o).alloc (.cells (madeCells #[.slice none 0 0] k) 33)) (.int .i32 0) k 48
  rw [h1] at r1
  rw [h2] at r2
  refine ⟨(Below.heap_alloc _ _ _ (by simp; omega)).trans ((Below.heap_alloc _ _ _ (by simp; omega)).trans ((Below.heap_alloc _ _ _ (by simp)).trans (heap_alloc_new w o))), ((((((Kp.refl _ _).alloc _).alloc _).alloc _).alloc _).drew), heap_new_at _ _ _ (by simp), (r1.alloc _).alloc _, r2.alloc _, ⟨?_, ?_, ?_⟩, ⟨?_, ?_, ?_⟩⟩
  all_goals (dsimp only; omega)
theorem ns_mk2 (d : D) (y : Dy) (w : World) (k : Nat) (o : Obj) : NS d y ⟨w.heap.size + 1 + 1 + 1, w.heap.size + 1 + 1, w.heap.size + 1, k⟩ o w
    (((((w.alloc o).alloc (.cells (madeCells #[.int .i32 0] k) 48)).alloc (.cells (madeCells #[.slice none 0 0] k) 33)).alloc (.cells (qC d y ⟨w.heap.size + 1 + 1 + 1, w.heap.size + 1 + 1, w.heap.size + 1, k⟩ (.slice none 0 0)) 110)).drew) := by
  have h1 : (w.alloc o).heap.size = w.heap.size + 1 := by simp
  have h2 : ((w.alloc o).alloc (.cells (madeCells #[.int .i32 0] k) 48)).heap.size = w.heap.size + 1 + 1 := by simp
  have r1 := World.rowIs_made (w.alloc o) (.int .i32 0) k 48
  have r2 := World.rowIs_made ((w.alloc o).alloc (.cells (madeCells #[.int .i32 0] k) 48)) (.slice none 0 0) k 33
  rw [h1] at r1
  rw [h2] at r2
  refine ⟨(Below.heap_alloc _ _ _ (by simp; omega)).trans ((Below.heap_alloc _ _ _ (by simp; omega)).trans ((Below.heap_alloc _ _ _ (by simp)).trans (heap_alloc_new w o))), ((((((Kp.refl _ _).alloc _).alloc _).alloc _).alloc _).drew), heap_new_at _ _ _ (by simp), r2.alloc _, (r1.alloc _).alloc _, ⟨?_, ?_, ?_⟩, ⟨?_, ?_, ?_⟩⟩
  all_goals (dsimp only; omega)

/-- what newest has laid for p entries -/
structure NL (d : D) (y : Dy) (S : Nat) (q : Sq) (ix0 : Nat → Nat) (w wz : World) (p : Nat) (cb cc : Nat → Nat) (wr : World) : Prop where
  kp : Kp (fun k => k = y.kB ∨ k = q.cB) wz wr
  ci : ∃ cv, CI d y S (fun k => k = q.Q ∨ k = q.cB ∨ k = q.pB ∨ k < w.heap.size) wr cv
  row : ∃ f, wr.rowIs q.cB 33 q.k f
  cs : ∀ j, j < p → wr.cell? ⟨q.cB, j, none⟩ = some (.slice (some ⟨cb j, 0, none⟩) (cand d (ix0 j)).length (cc j)) ∧ Own wr 48 (cb j) (cand d (ix0 j)).length (cc j) (cand d (ix0 j)) ∧ cb j ∉ y.fix ∧ ¬ (cb j = q.Q ∨ cb j = q.cB ∨ cb j = q.pB ∨ cb j < w.heap.size)

theorem CI.kp0 {d : D} {y : Dy} {S : Nat} {np : Nat → Prop} {w w' : World} {cv : Nat → Value} (h : CI d y S np w cv) (k : Kp (fun _ => False) w w') : CI d y S np w' cv := by
  refine ⟨k.rowIs h.k id, fun n hn => ?_⟩
  rcases h.ca n hn with h1 | ⟨cb, cap, h1, h2, h3, h4⟩
  · exact .inl h1
  · exact .inr ⟨cb, cap, h1, k.own h2 id, h3, h4⟩
theorem CI.kpc {d : D} {y : Dy} {S B : Nat} {np : Nat → Prop} {w w' : World} {cv : Nat → Value} (h : CI d y S np w cv) (hB : np B) (hk : B ≠ y.kB) (k : Kp (fun k => k = B) w w') : CI d y S np w' cv := by
  refine ⟨k.rowIs h.k (fun e => hk e.symm), fun n hn => ?_⟩
  rcases h.ca n hn with h1 | ⟨cb, cap, h1, h2, h3, h4⟩
  · exact .inl h1
  · exact .inr ⟨cb, cap, h1, k.own h2 (fun e => h4.2 (e ▸ hB)), h3, h4⟩
theorem nl_drew {u v : World} {Q G L kB cB : Nat} {x1 x2 x3 lk : Value} {mp key : Value} (h1 : v.cell? ⟨Q, 1, none⟩ = some x1) (h2 : v.cell? ⟨G, 0, none⟩ = some x2) (h3 : v.cell? ⟨L, 2, none⟩ = some x3)
    (h4 : (Instr.lookup 38 mp key false).run Yba.prog v.drew = .ok lk v.drew) (hk : Kp (fun k => k = kB ∨ k = cB) u v) :
    v.drew.cell? ⟨Q, 1, none⟩ = some x1 ∧ v.drew.cell? ⟨G, 0, none⟩ = some x2 ∧ v.drew.cell? ⟨L, 2, none⟩ = some x3 ∧ (Instr.lookup 38 mp key false).run Yba.prog v.drew = .ok lk v.drew ∧ Hid (Kp (fun k => k = kB ∨ k = cB) u v.drew) := ⟨h1, h2, h3, h4, hide hk.drew⟩
theorem nl_step {u v z : World} {Q G L kB cB mb N n : Nat} {nm : Nat → ByteArray} {x1 x2 x3 x4 : Value} (n1 : Q ≠ kB ∧ Q ≠ cB) (n2 : G ≠ kB ∧ G ≠ cB) (n3 : L ≠ kB ∧ L ≠ cB) (n4 : mb ≠ kB ∧ mb ≠ cB) (hm : Hid (MapIs u mb nm N)) (hn : n < N)
    (h : v.cell? ⟨Q, 1, none⟩ = some x1 ∧ v.cell? ⟨G, 0, none⟩ = some x2 ∧ v.cell? ⟨L, 2, none⟩ = some x3 ∧ (Instr.lookup 38 (.map (some mb)) (.string (nm n)) false).run Yba.prog v = .ok x4 v ∧ Hid (Kp (fun k => k = kB ∨ k = cB) u v)) (k : Kp (fun k => k = kB ∨ k = cB) v z) :
    z.cell? ⟨Q, 1, none⟩ = some x1 ∧ z.cell? ⟨G, 0, none⟩ = some x2 ∧ z.cell? ⟨L, 2, none⟩ = some x3 ∧ (Instr.lookup 38 (.map (some mb)) (.string (nm n)) false).run Yba.prog z = .ok (.int .i32 (n : Int)) z ∧ Hid (Kp (fun k => k = kB ∨ k = cB) u z) := by
  have kk := h.2.2.2.2.out.trans k
  refine ⟨k.cell h.1 ?_, k.cell h.2.1 ?_, k.cell h.2.2.1 ?_, (kk.mapIs hm.out ?_).2 z rfl n hn, hide kk⟩
  · rintro (e | e)
    · exact n1.1 e
    · exact n1.2 e
  · rintro (e | e)
    · exact n2.1 e
    · exact n2.2 e
  · rintro (e | e)
    · exact n3.1 e
    · exact n3.2 e
  · rintro (e | e)
    · exact n4.1 e
    · exact n4.2 e

set_option maxRecDepth 100000 in
set_option maxHeartbeats 4000000 in
theorem newest_walk (d : D) (b : Bk) (y : Dy) (S k nB mb : Nat) (nm : Nat → ByteArray) (ix0 : Nat → Nat) (pr0 : Nat → Prop) (tv : Value) (c : Nat) (sv : Value) (rv : Nat → Value) (sn by_ : Nat → Int) (w : World) (hok : d.Ok) (hy : y.Ok S) (hk : k ≤ 5) (hix : ∀ j, j < k → ix0 j < d.nM + 2)
    (hg : GI d b y S (fun k => pr0 k ∨ k = y.tB ∨ k = y.yB) w tv c sv rv sn [] []) (hb : Bd d c rv sn) (hc : w.rowIs y.kB 33 (d.nM + 2) (fun _ => .slice none 0 0)) (ht : w.rowIs y.tB 48 (d.nM + 2) (fun n => .int .i32 (-1))) (hyy : w.rowIs y.yB 3 (d.nM + 2) (fun n => .int .i64 (by_ n)))
    (hn : ∀ j, j < k → w.cell? ⟨nB, j, none⟩ = some (.string (nm (ix0 j)))) (hnB : pr0 nB) (hp1 : ∀ k, pr0 k → k ∉ y.fix) (hp2 : ∀ k, k < S → pr0 k) (hL : view S w ⟨b.L, 2, none⟩ = some (.map (some mb))) (hm : MapIs w mb nm (d.nM + 2)) (hmS : mb < S) :
    Calls Yba.prog 9 #[.pointer (some ⟨y.G, 0, none⟩), .agg #[.string ⟨#[113]⟩, .slice (some ⟨nB, 0, none⟩) k k, .string ⟨#[]⟩]] w fun e w' => NPost d b y S k ix0 pr0 w e w' := by
  have HG := hide hg
  have HY := hide (And.intro hb (And.intro hc (And.intro ht (And.intro hyy (And.intro hn (And.intro hL (And.intro hm (And.intro hix (And.intro hp1 hp2)))))))))
  have hmk1 := run_make_row' (P := Yba.prog) 32 33 (.slice none 0 0) 24 Yba.underlying32 info33 rfl .i64 .i64 k (by omega) (by omega)
  have hmk2 := run_make_row' (P := Yba.prog) 33 48 (.int .i32 0) 4 Yba.underlying33 info48 rfl .i64 .i64 k (by omega) (by omega)
  have ka : Kp (fun _ => False) w (w.alloc (.cells #[.string ⟨#[113]⟩, .slice (some ⟨nB, 0, none⟩) k k, .string ⟨#[]⟩] 45)) := (Kp.refl _ _).alloc _
  have g9 := (ka.gis hg.g id).c9
  have g10 := (ka.gis hg.g id).c10
  clear hg hb hc ht hyy hn hL hm hix hp1 hp2 ka
  go_enter Yba.func9, Yba.ntmps9
  go_wp2_with fail
  go_region_held3 (fun w' => w'.cell? ⟨y.G, 9, none⟩ = some (.slice (some ⟨y.tB, 0, none⟩) (d.nM + 2) (d.nM + 2)) ∧ w'.cell? ⟨y.G, 10, none⟩ = some (.slice (some ⟨y.yB, 0, none⟩) (d.nM + 2) (d.nM + 2))) (first | exact ns_drew g9 g10 | exact ns_alloc (by assumption)) (fail)
  all_goals first
    | (have H := hide (ns_mk1 d y w k (.cells #[.string ⟨#[113]⟩, .slice (some ⟨nB, 0, none⟩) k k, .string ⟨#[]⟩] 45))
       obtain ⟨wz, hwz⟩ : ∃ wz, (((((w.alloc (.cells #[.string ⟨#[113]⟩, .slice (some ⟨nB, 0, none⟩) k k, .string ⟨#[]⟩] 45)).alloc (.cells (madeCells #[.slice none 0 0] k) 33)).alloc (.cells (madeCells #[.int .i32 0] k) 48)).alloc (.cells (qC d y ⟨w.heap.size + 1 + 1 + 1, w.heap.size + 1, w.heap.size + 1 + 1, k⟩ (.slice none 0 0)) 110)).drew) = wz := ⟨_, rfl⟩
       rw [hwz] at H
       unfold qC at hwz
       rw [hwz]
       clear hwz
       generalize w.heap.size + 1 + 1 + 1 = Q at H ⊢
       generalize w.heap.size + 1 + 1 = pB at H ⊢
       generalize w.heap.size + 1 = cB at H ⊢)
    | (have H := hide (ns_mk2 d y w k (.cells #[.string ⟨#[113]⟩, .slice (some ⟨nB, 0, none⟩) k k, .string ⟨#[]⟩] 45))
       obtain ⟨wz, hwz⟩ : ∃ wz, (((((w.alloc (.cells #[.string ⟨#[113]⟩, .slice (some ⟨nB, 0, none⟩) k k, .string ⟨#[]⟩] 45)).alloc (.cells (madeCells #[.int .i32 0] k) 48)).alloc (.cells (madeCells #[.slice none 0 0] k) 33)).alloc (.cells (qC d y ⟨w.heap.size + 1 + 1 + 1, w.heap.size + 1 + 1, w.heap.size + 1, k⟩ (.slice none 0 0)) 110)).drew) = wz := ⟨_, rfl⟩
       rw [hwz] at H
       unfold qC at hwz
       rw [hwz]
       clear hwz
       generalize w.heap.size + 1 + 1 + 1 = Q at H ⊢
       generalize w.heap.size + 1 + 1 = cB at H ⊢
       generalize w.heap.size + 1 = pB at H ⊢)
  all_goals clear hmk1 hmk2 g9 g10
  all_goals
    have cw : wz.cell? ⟨w.heap.size, 1, none⟩ = some (.slice (some ⟨nB, 0, none⟩) k k) := cell_of_row wz w.heap.size 1 _ _ _ H.out.nw
    go_wp2_with fail
    go_loopg [35] k (fun kk iv wr => ∃ p : Nat, p + kk = k ∧ iv = .int .i64 p ∧ Hid (∃ cb cc, NL d y S ⟨Q, cB, pB, k⟩ ix0 w wz p cb cc wr))
    case atStart =>
      refine ⟨0, by omega, rfl, hide ⟨fun _ => 0, fun _ => 0, Kp.refl _ _, ⟨_, H.out.kp.rowIs HY.out.2.1 id, fun n hn => .inl rfl⟩, ⟨_, H.out.c⟩, fun j hj => by omega⟩⟩
    case round =>
      obtain ⟨p, hp, rfl, HP⟩ := hrel
      obtain ⟨cb, cc, nl⟩ := HP.out
      obtain ⟨hb, hc, ht, hyy, hn, hL, hm, hix, hp1, hp2⟩ := HY.out
      by_cases hlt : p < k
      · have hlt' : (p : Int) < (k : Int) := by omega
        have hS := HG.out.hS
        have hzs := H.out.kp.size
        have hws := nl.kp.size
        obtain ⟨m1, m2, m3, m4, m5, m6, m7⟩ := mem_fix y
        have hkS := hy.ge _ m3
        have hkw := HG.out.fx _ m3
        have hGw := HG.out.fx _ m1
        have hnB' : nB < w.heap.size := HG.out.pl _ (.inl hnB)
        have hge := H.out.ge
        have hne := H.out.ne
        dsimp only at hge hne
        have hLS : b.L < S := view_lt hL
        have nQ : Q ≠ y.kB ∧ Q ≠ cB := ⟨by omega, hne.1⟩
        have nG : y.G ≠ y.kB ∧ y.G ≠ cB := ⟨hy.ne.2.1, by omega⟩
        have nL : b.L ≠ y.kB ∧ b.L ≠ cB := ⟨by omega, by omega⟩
        have nM : mb ≠ y.kB ∧ mb ≠ cB := ⟨by omega, by omega⟩
        have hcbw : cB ≠ y.kB := by omega
        have q1 : wr.cell? ⟨Q, 1, none⟩ = some (.slice (some ⟨cB, 0, none⟩) k k) := (nl.kp.qis H.out.hq (by
          rintro (e | e)
          · exact nQ.1 e
          · exact nQ.2 e)).c1
        have gis : Gis d b y tv (c : Int) sv wr := nl.kp.gis (H.out.kp.gis HG.out.g id) (by
          rintro (e | e)
          · exact nG.1 e
          · exact nG.2 e)
        have g0 := gis.c0
        have l2 : wr.cell? ⟨b.L, 2, none⟩ = some (.map (some mb)) := nl.kp.cell (H.out.kp.cell (view_cell hL) id) (by
          rintro (e | e)
          · exact nL.1 e
          · exact nL.2 e)
        have cn : wr.cell? ⟨nB, p, none⟩ = some (.string (nm (ix0 p))) := nl.kp.cell (H.out.kp.cell (hn p hlt) id) (by
          rintro (e | e)
          · have e' : nB = y.kB := e
            exact hp1 _ hnB (by rw [e']; exact m3)
          · have : nB = cB := e
            omega)
        have mi : MapIs wr mb nm (d.nM + 2) := nl.kp.mapIs (H.out.kp.mapIs hm id) (by
          rintro (e | e)
          · exact nM.1 e
          · exact nM.2 e)
        have hi := hix p hlt
        have MI := hide mi
        have lk := mi.2 wr.drew rfl _ hi
        have kw : Kp (fun k => k = y.kB ∨ k = cB) w wr := (H.out.kp.mono (fun _ _ h => h.elim)).trans nl.kp
        have hstat : ∀ w', Kp (fun _ => False) wr w' → Stat d b (view S w') := by
          intro w' k'
          have kk := kw.trans' k' (fun _ _ h => h.elim)
          rw [kk.view hS (by
            rintro i (e | e)
            · omega
            · omega)]
          exact HG.out.st
        obtain ⟨cv, hci⟩ := nl.ci
        have CW := hide (fun w' (k' : Kp (fun _ => False) wr w') => candidates_walk d b y S (ix0 p) (fun k => k = Q ∨ k = cB ∨ k = pB ∨ k < w.heap.size) tv (c : Int) sv cv w' hok hy hi (hstat w' k') (by have := k'.size; omega) (k'.gis gis id) (hci.kp0 k') (fun i hi => by have := HG.out.fx i hi; have := k'.size; omega) (by
          have hQ := H.out.hq.lt
          have hcb := H.out.c.lt
          have hpb := H.out.p.lt
          have hks := k'.size
          dsimp only at hQ hcb hpb
          rintro i (e | e | e | e)
          · omega
          · omega
          · omega
          · omega))
        obtain ⟨fr, hfr⟩ := nl.row
        have NLH := hide nl
        have HFR := hide hfr
        obtain ⟨ni, hni⟩ : ∃ ni, ix0 p = ni := ⟨_, rfl⟩
        rw [hni] at hi cn lk CW
        have HNI := hide hni
        clear hb hc ht hyy hn hL hm hix hp1 hp2 hstat kw mi gis nl hci hfr HP hS hzs hws hkS hkw hGw hnB' hge hLS m1 m2 m3 m4 m5 m6 m7 hni cw
        go_wp2_with fail
        go_region_held3 (fun w' => w'.cell? ⟨Q, 1, none⟩ = some (.slice (some ⟨cB, 0, none⟩) k k) ∧ w'.cell? ⟨y.G, 0, none⟩ = some (.pointer (some ⟨b.L, 0, none⟩)) ∧ w'.cell? ⟨b.L, 2, none⟩ = some (.map (some mb)) ∧ (Instr.lookup 38 (.map (some mb)) (.string (nm ni)) false).run Yba.prog w' = .ok (.int .i32 (ni : Int)) w' ∧ Hid (Kp (fun k => k = y.kB ∨ k = cB) wr w')) (first | exact nl_drew q1 g0 l2 lk (Kp.refl _ _) | exact nl_step nQ nG nL nM MI hi (by assumption) (by assumption) | exact nl_step nQ nG nL nM MI hi (by assumption) ((Kp.refl _ _).setCell (fun _ => .inr rfl) _))
          (first
            | (go_at_call 19; refine (CW.out _ ((Kp.refl _ _).drew)).mono ?_; rintro e w4 ⟨cb4, cap4, cv4, rfl, ho4, hf4, hS4, hc4, hk4⟩; have hk5 : Kp (fun k => k = y.kB ∨ k = cB) wr.drew w4 := hk4.mono (fun _ _ e => .inl e); have x4 := hk4.cell (show wr.drew.cell? ⟨cB, p, none⟩ = some (fr p) from HFR.out.cell hlt) hcbw; have z4 := (hk4.rowIs (show wr.drew.rowIs cB 33 k fr from HFR.out) hcbw).frozen p))
        all_goals go_wp2
        all_goals (go_roundg (k - (p + 1)))
        all_goals first
          | omega
          | (have hni := HNI.out
             refine ⟨p + 1, by omega, by go_num, hide ⟨fun j => if j = p then cb4 else cb j, fun j => if j = p then cap4 else cc j, ?_⟩⟩
             have ks := Kp.set1 w4 cB p (.slice (some ⟨cb4, 0, none⟩) (cand d ni).length cap4)
             have hrow : w4.rowIs cB 33 k fr := hk4.rowIs (show wr.drew.rowIs cB 33 k fr from HFR.out) hcbw
             have kr : Kp (fun k => k = y.kB) wr w4 := ((Kp.refl _ _).drew).trans hk4
             refine ⟨((NLH.out.kp.trans' (((Kp.refl _ _).drew).trans hk5 : Kp (fun k => k = y.kB ∨ k = cB) wr w4) (fun _ _ h => h)).setCell (fun _ => .inr rfl) _), ⟨cv4, hc4.kpc (.inr (.inl rfl)) hcbw ks⟩, ⟨_, hrow.set p _⟩, ?_⟩
             intro j hj
             by_cases e : j = p
             · subst e
               simp only [if_true]
               rw [hni]
               refine ⟨?_, ks.own ho4 (fun e => hS4.2 (.inr (.inl e))), hf4, hS4.2⟩
               rw [(hrow.set j _).cell hlt, if_pos rfl]
             · simp only [if_neg e]
               obtain ⟨h1, h2, h3, h4⟩ := NLH.out.cs j (by omega)
               have hjk : cb j ≠ y.kB := fun e => h3 (by rw [e]; exact (mem_fix y).2.2.1)
               refine ⟨?_, ks.own (kr.own h2 hjk) (fun e => h4 (.inr (.inl e))), h3, h4⟩
               rw [(hrow.set p _).cell (by omega), if_neg e, ← hrow.cell (by omega)]
               exact kr.cell h1 hcbw)
      · have hnl : ¬ ((p : Int) < (k : Int)) := by omega
        obtain rfl : p = k := by omega
        have hS := HG.out.hS
        have hzs := H.out.kp.size
        have hws := nl.kp.size
        obtain ⟨m1, m2, m3, m4, m5, m6, m7⟩ := mem_fix y
        have hge := H.out.ge
        have hne := H.out.ne
        have hQl := H.out.hq.lt
        have hcl := H.out.c.lt
        have hpl := H.out.p.lt
        dsimp only at hge hne hQl hcl hpl
        have f3 := HG.out.fx _ m3
        have f6 := HG.out.fx _ m6
        have f7 := HG.out.fx _ m7
        have kz : Kp (fun k => k = y.kB ∨ k = cB) w wr := (H.out.kp.mono (fun _ _ h => h.elim)).trans nl.kp
        have kk : Kp (fun k => k = y.kB) w wr := kz.mono (by
          rintro i hi (e | e)
          · exact e
          · omega)
        have kw0 : Kp (fun k => ¬ pr0 k) w wr := kk.mono (fun i _ e hp => hp1 i hp (by rw [e]; exact m3))
        have gi := HG.out.kpk hy kk
        have hcbl : ∀ j, j < p → cb j < wr.heap.size := fun j hj => (nl.cs j hj).2.1.lt
        have fw : FW d b y S ⟨Q, cB, pB, p⟩ (fun j => cand d (ix0 j)) cb cc (fun i => pr0 i ∨ i = cB ∨ ∃ j, j < p ∧ cb j = i) (fun i => (pr0 i ∨ i = y.tB ∨ i = y.yB) ∨ (w.heap.size ≤ i ∧ i < wr.heap.size)) wr (.slice none 0 0) (fun _ => 0) (fun _ => -1) by_ [] := by
          refine ⟨⟨tv, c, sv, rv, sn, gi, hb⟩, nl.kp.qis H.out.hq ?_, OV.nil _ _, nl.kp.rowIs H.out.p ?_, kk.rowIs ht ?_, kk.rowIs hyy ?_, ?_, ?_, ⟨?_, ?_, ?_⟩, ⟨?_, ?_, ?_, ?_, ?_⟩, ⟨?_, ?_⟩, ⟨?_, ?_, ?_, ?_, ?_⟩, ⟨?_, ?_, ?_, ?_, ?_, ?_⟩, ?_⟩
          · rintro (e | e)
            · have e' : Q = y.kB := e
              omega
            · exact hne.1 e
          · rintro (e | e)
            · have e' : pB = y.kB := e
              omega
            · exact hne.2.2 e.symm
          · exact fun e => hy.ne.2.2.2.2.2.2.2.2.2.2.2.2.2.1 e.symm
          · exact fun e => hy.ne.2.2.2.2.2.2.2.2.2.2.2.2.2.2.1 e.symm
          · intro j hj
            exact ⟨(nl.cs j hj).1, (nl.cs j hj).2.1⟩
          · rintro i (e | e | ⟨j, hj, e⟩)
            · exact .inl (.inl e)
            · exact .inr (by omega)
            · have h1 := (nl.cs j hj).2.2.2
              have h2 := hcbl j hj
              refine .inr ⟨?_, by omega⟩
              rcases Nat.lt_or_ge (cb j) w.heap.size with h | h
              · exact absurd (.inr (.inr (.inr h))) h1
              · omega
          · show S ≤ Q; omega
          · show S ≤ pB; omega
          · intro k e; cases e
          · exact .inr ⟨hge.1, by show Q < _; omega⟩
          · exact .inr ⟨hge.2.2, by show pB < _; omega⟩
          · exact .inl (.inr (.inl rfl))
          · exact .inl (.inr (.inr rfl))
          · intro k e; cases e
          · exact .inr (.inl rfl)
          · intro j hj; exact .inr (.inr ⟨j, hj, rfl⟩)
          · rintro (e | e | ⟨j, hj, e⟩)
            · have := HG.out.pl _ (.inl e)
              have h2 : w.heap.size ≤ Q := hge.1
              dsimp only at this
              omega
            · exact hne.1 e
            · exact (nl.cs j hj).2.2.2 (.inl e)
          · rintro (e | e | ⟨j, hj, e⟩)
            · have := HG.out.pl _ (.inl e)
              dsimp only at this
              omega
            · exact hne.2.2 e.symm
            · exact (nl.cs j hj).2.2.2 (.inr (.inr (.inl e)))
          · rintro (e | e | ⟨j, hj, e⟩)
            · exact hp1 _ e m6
            · omega
            · exact (nl.cs j hj).2.2.1 (by rw [e]; exact m6)
          · rintro (e | e | ⟨j, hj, e⟩)
            · exact hp1 _ e m7
            · omega
            · exact (nl.cs j hj).2.2.1 (by rw [e]; exact m7)
          · intro k e; cases e
          · exact hne.2.1
          · show Q ≠ _; omega
          · show Q ≠ _; omega
          · show pB ≠ _; omega
          · show pB ≠ _; omega
          · exact hy.ne.2.2.2.2.2.2.2.2.2.2.2.2.2.2.2.2.2.2.2.2
          · intro k e; cases e
        have fl : FL d (fun j => cand d (ix0 j)) 0 (fun _ => 0) (fun _ => 0) (fun _ => -1) by_ [] := ⟨⟨fun j h => by omega, fun n h => absurd rfl h⟩, fun j h => by omega, fun j h => by omega, fun n h => absurd rfl h, Nat.le_refl _, fun n h => by cases h⟩
        have CL := hide (from_walk d b y S ⟨Q, cB, pB, p⟩ (fun j => cand d (ix0 j)) cb cc hok hy hk (fun j hj v hv => cand_lt hok (hix j hj) v hv) (fun j hj => cand_len hok (hix j hj)) p 0 (by simp) (Nat.zero_le _) _ _ wr _ (fun _ => 0) _ _ _ _ fw fl)
        have KW := hide (And.intro kw0 (And.intro hp1 hix))
        clear fw fl hb hc ht hyy hn hL hm hix hp1 hp2 hS hzs hws hge hne hQl hcl hpl f3 f6 f7 kz kk kw0 gi hcbl nl HP m1 m2 m3 m4 m5 m6 m7 cw
        go_wp2_with fail
        refine CL.out.mono ?_
        rintro e w8 ⟨k8, hor⟩
        have kw8 : Kp (fun k => ¬ pr0 k) w w8 := KW.out.1.trans' k8 (fun i _ h e => h (.inl e))
        clear CL k8
        rcases hor with ⟨ix', pr8, setv8, pf8, st8, by8, sl8, rfl, hff, hix8, fw8, fl8⟩ | ⟨back, bb, mm, mc, B8, pr8, setv8, pf8, by8, rfl, hmm, hmc, hcl8, hbb, hb1, hb2, hbf8, hfail, fw8, fl8, hby8⟩
        · have hpf : ∀ j, j < p → pf8 j = ((Plain.val (fun j => cand d (ix0 j)) ix' j : Nat) : Int) := fl8.pf
          rcases fw8.os.form with ⟨hs8, hnil⟩ | ⟨g8, cap8, hs8, ho8⟩
          · subst hs8
            have hst : st8 = fun _ => -1 := funext fun n => by
              by_cases e : st8 n = -1
              · exact e
              · have := fl8.mem n e
                rw [hnil] at this
                cases this
            rw [hst] at fw8
            have q5 : w8.cell? ⟨Q, 5, none⟩ = some (.slice none 0 0) := fw8.hq.c5
            have q2 : w8.cell? ⟨Q, 2, none⟩ = some (.slice (some ⟨pB, 0, none⟩) p p) := fw8.hq.c2
            have HF := hide (And.intro fw8 (And.intro hff (And.intro kw8 hpf)))
            clear fw8 fl8 hff kw8 hix8 hst hpf
            go_wp2_with fail
            go_loopg [68] 0 (fun kk iv wq => iv = .int .i64 0 ∧ wq = w8)
            case atStart => exact ⟨rfl, rfl⟩
            case round =>
              obtain ⟨rfl, rfl⟩ := hrel
              go_wp2
              go_ret2
              obtain ⟨fw8, hff, kw8, hpf⟩ := HF.out
              obtain ⟨tv9, c9, sv9, rv9, sn9, g9, b9⟩ := fw8.gi
              refine ⟨kw8, fw8.t, ⟨_, _, _, g9.g⟩, g9.st, g9.hS, .inl ⟨ix', pB, hff, rfl, fw8.p.congr ?_⟩⟩
              intro j hj
              show Value.int .i32 (pf8 j) = _
              rw [hpf j hj]
          · subst hs8
            obtain ⟨L, hL⟩ : ∃ L, sl8.length = L := ⟨_, rfl⟩
            have hL20 : L ≤ 20 := by have := fl8.ln; dsimp only at this; omega
            rw [hL] at fw8 ho8
            have q5 : w8.cell? ⟨Q, 5, none⟩ = some (.slice (some ⟨g8, 0, none⟩) L cap8) := fw8.hq.c5
            have hg8 : g8 ≠ y.tB := (fw8.sne g8 rfl).2.2.1
            have HF := hide (And.intro fw8 (And.intro hff (And.intro kw8 (And.intro hpf (And.intro ho8 (And.intro fl8 hL))))))
            clear fw8 fl8 hff kw8 hix8 hpf ho8 hL
            go_wp2_with fail
            go_loopg [68] L (fun kk iv wq => ∃ t : Nat, t + kk = L ∧ iv = .int .i64 t ∧ Hid (FW d b y S ⟨Q, cB, pB, p⟩ (fun j => cand d (ix0 j)) cb cc (fun i => pr0 i ∨ i = cB ∨ ∃ j, j < p ∧ cb j = i) pr8 wq (.slice (some ⟨g8, 0, none⟩) L cap8) pf8 (fun n => if n ∈ sl8.take t then -1 else st8 n) by8 sl8 ∧ Kp (fun k => k = y.tB) w8 wq))
            case atStart =>
              refine ⟨0, by omega, rfl, hide ⟨?_, Kp.refl _ _⟩⟩
              rw [show (fun n => if n ∈ sl8.take 0 then (-1 : Int) else st8 n) = st8 from by funext n; simp]
              exact HF.out.1
            case round =>
              obtain ⟨t, ht, rfl, HQ⟩ := hrel
              obtain ⟨fw, kt⟩ := HQ.out
              obtain ⟨fw8, hff, kw8, hpf, ho8, fl8, hL⟩ := HF.out
              by_cases hlt3 : t < L
              · have hlt3' : (t : Int) < (L : Int) := by omega
                have h1 := kt.cell (ho8.cell t hlt3) hg8
                have htake : sl8.take (t + 1) = sl8.take t ++ [sl8.getD t 0] := by
                  rw [List.take_add_one, List.getD_eq_getElem?_getD, List.getElem?_eq_getElem (by omega)]; rfl
                have h2 : sl8.getD t 0 < d.nM + 2 := by
                  refine fl8.lt _ ?_
                  rw [List.getD_eq_getElem?_getD, List.getElem?_eq_getElem (by omega)]
                  exact List.getElem_mem _
                obtain ⟨n3, hn3⟩ : ∃ n3, sl8.getD t 0 = n3 := ⟨_, rfl⟩
                rw [hn3] at h1 h2 htake
                have h2' : (n3 : Int) < (d.nM : Int) + 2 := by omega
                have q3 : World.cell? _ ⟨Q, 3, none⟩ = some (.slice (some ⟨y.tB, 0, none⟩) (d.nM + 2) (d.nM + 2)) := fw.hq.c3
                have ct := fw.t.cell h2
                have zt := fw.t.frozen n3
                have FT := hide (And.intro fw (And.intro kt htake))
                clear fw kt htake hn3 HQ fw8 hff kw8 hpf ho8 fl8 hL
                go_wp2
                go_roundg (L - (t + 1))
                case measure => omega
                case rel =>
                  obtain ⟨fw, kt, htake⟩ := FT.out
                  refine ⟨t + 1, by omega, by go_num, hide ⟨?_, kt.setCell (fun _ => rfl) _⟩⟩
                  have := fw.setT hy n3 (-1)
                  rw [show (fun n => if n ∈ sl8.take (t + 1) then (-1 : Int) else st8 n) = Plain.upd (fun n => if n ∈ sl8.take t then (-1 : Int) else st8 n) n3 (-1) from by
                    funext n
                    unfold Plain.upd
                    rw [htake]
                    by_cases e : n = n3
                    · simp [e]
                    · simp [e]]
                  exact this
              · have hnl3 : ¬ ((t : Int) < (L : Int)) := by omega
                have htL : sl8.take t = sl8 := List.take_of_length_le (by omega)
                rw [htL, show (fun n => if n ∈ sl8 then (-1 : Int) else st8 n) = (fun _ => -1) from by
                  funext n
                  by_cases e : n ∈ sl8
                  · rw [if_pos e]
                  · rw [if_neg e]
                    by_cases e2 : st8 n = -1
                    · exact e2
                    · exact absurd (fl8.mem n e2) e] at fw
                have q2 : World.cell? _ ⟨Q, 2, none⟩ = some (.slice (some ⟨pB, 0, none⟩) p p) := fw.hq.c2
                have FE := hide (And.intro fw kt)
                clear fw kt HQ fw8 hff kw8 hpf ho8 fl8 hL htL
                go_wp2
                go_ret2
                obtain ⟨fw8, hff, kw8, hpf, ho8, fl8, hL⟩ := HF.out
                obtain ⟨fw, kt⟩ := FE.out
                obtain ⟨tv9, c9, sv9, rv9, sn9, g9, b9⟩ := fw.gi
                refine ⟨kw8.trans' kt (fun i _ e hp => KW.out.2.1 i hp (by rw [e]; exact (mem_fix y).2.2.2.2.2.1)), fw.t, ⟨_, _, _, g9.g⟩, g9.st, g9.hS, .inl ⟨ix', pB, hff, rfl, fw.p.congr ?_⟩⟩
                intro j hj
                show Value.int .i32 (pf8 j) = _
                rw [hpf j hj]
        · have hbk : ¬ (back = (p : Int)) := by omega
          have hbk' : (back == (p : Int)) = false := by simp; omega
          have hset : ∃ ao cp, setv8 = .slice ao 0 cp := by
            rcases fw8.os.form with ⟨h, _⟩ | ⟨g, cap, h, _⟩
            · exact ⟨none, 0, h⟩
            · exact ⟨_, _, h⟩
          obtain ⟨ao, cp, rfl⟩ := hset
          have q5 : w8.cell? ⟨Q, 5, none⟩ = some (.slice ao 0 cp) := fw8.hq.c5
          have HF := hide (And.intro fw8 (And.intro hfail kw8))
          clear fw8 fl8 hfail kw8 hcl8 hbf8 hby8 hbb
          go_wp2_with fail
          go_loopg [68] 0 (fun kk iv wq => iv = .int .i64 0 ∧ wq = w8)
          case atStart => exact ⟨rfl, rfl⟩
          case round =>
            obtain ⟨rfl, rfl⟩ := hrel
            go_wp2
            go_ret2
            obtain ⟨fw8, hfail, kw8⟩ := HF.out
            obtain ⟨tv9, c9, sv9, rv9, sn9, g9, b9⟩ := fw8.gi
            refine ⟨kw8, fw8.t, ⟨_, _, _, g9.g⟩, g9.st, g9.hS, .inr ⟨rfl, ?_⟩⟩
            intro iy hv
            refine hfail (Plain.val (fun j => cand d (ix0 j)) iy) (fun j h => by omega) (fun j _ hj => ?_)
            have hl : iy j < (cand d (ix0 j)).length := hv j hj
            show (cand d (ix0 j)).getD (iy j) 0 ∈ cand d (ix0 j)
            rw [List.getD_eq_getElem?_getD, List.getElem?_eq_getElem hl]
            exact List.getElem_mem _
end Go.Proofs.Ybulkctjg
