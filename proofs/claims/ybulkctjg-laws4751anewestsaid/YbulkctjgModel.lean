import Derived.Test.YbulkctjgPut
namespace Go.Proofs.Ybulkctjg
open Go.RowKit
set_option linter.unusedVariables false

def MdPost (d : D) (k : Nat) (ix0 : Nat → Nat) (w : World) (e : Ending) (w' : World) : Prop :=
  Kp (fun k => w.heap.size ≤ k) w w' ∧
  ((∃ ix ob, Plain.First k (fun j => cand d (ix0 j)) (rest d) ix ∧ e = .returned (.tuple #[.slice (some ⟨ob, 0, none⟩) k k, .bool true]) ∧ w'.rowIs ob 48 k (fun j => .int .i32 ((Plain.val (fun j => cand d (ix0 j)) ix j : Nat) : Int))) ∨
   (e = .returned (.tuple #[.slice none 0 0, .bool false]) ∧ ∀ iy, Plain.Valid k (fun j => cand d (ix0 j)) iy → ¬ Plain.Cons k (rest d) (Plain.val (fun j => cand d (ix0 j)) iy)))

/-- the model's candidate rows below p -/
def CR (d : D) (ix0 : Nat → Nat) (B0 cR k p : Nat) (cb cc : Nat → Nat) (w : World) : Prop :=
  (∃ f, w.rowIs cR 33 k f) ∧ ∀ j, j < p → w.cell? ⟨cR, j, none⟩ = some (.slice (some ⟨cb j, 0, none⟩) (cand d (ix0 j)).length (cc j)) ∧ Own w 48 (cb j) (cand d (ix0 j)).length (cc j) (cand d (ix0 j)) ∧ 0 < (cand d (ix0 j)).length ∧ B0 < cb j

/-- what the model's put holds to -/
theorem mo_drew {u v : World} {B c1 o1 c2 o2 c3 o3 : Nat} {x1 x2 x3 : Value} (h1 : v.cell? ⟨c1, o1, none⟩ = some x1) (h2 : v.cell? ⟨c2, o2, none⟩ = some x2) (h3 : v.cell? ⟨c3, o3, none⟩ = some x3) (hk : Kp (fun k => k = B) u v) :
    v.drew.cell? ⟨c1, o1, none⟩ = some x1 ∧ v.drew.cell? ⟨c2, o2, none⟩ = some x2 ∧ v.drew.cell? ⟨c3, o3, none⟩ = some x3 ∧ Hid (Kp (fun k => k = B) u v.drew) := ⟨h1, h2, h3, hide hk.drew⟩
theorem mo_step {u v z : World} {B c1 o1 c2 o2 c3 o3 : Nat} {x1 x2 x3 : Value} (n1 : c1 ≠ B) (n2 : c2 ≠ B) (n3 : c3 ≠ B) (h : v.cell? ⟨c1, o1, none⟩ = some x1 ∧ v.cell? ⟨c2, o2, none⟩ = some x2 ∧ v.cell? ⟨c3, o3, none⟩ = some x3 ∧ Hid (Kp (fun k => k = B) u v)) (k : Kp (fun k => k = B) v z) :
    z.cell? ⟨c1, o1, none⟩ = some x1 ∧ z.cell? ⟨c2, o2, none⟩ = some x2 ∧ z.cell? ⟨c3, o3, none⟩ = some x3 ∧ Hid (Kp (fun k => k = B) u z) := ⟨k.cell h.1 n1, k.cell h.2.1 n2, k.cell h.2.2.1 n3, hide (h.2.2.2.out.trans k)⟩

set_option maxRecDepth 100000 in
set_option maxHeartbeats 4000000 in
theorem model_walk (d : D) (b : Bk) (y : Dy) (S k iB icap : Nat) (ix0 : Nat → Nat) (tv : Value) (c : Int) (sv : Value) (w : World) (hok : d.Ok) (hk : k ≤ 5) (hst : Stat d b (view S w)) (hS : S ≤ w.heap.size) (hg : Gis d b y tv c sv w)
    (hix : ∀ j, j < k → ix0 j < d.nM + 2) (hi : ∀ j, j < k → w.cell? ⟨iB, j, none⟩ = some (.int .i64 ((ix0 j : Nat) : Int))) (hiB : iB < w.heap.size) :
    Calls Yba.prog 10 #[.pointer (some ⟨y.G, 0, none⟩), .int .i64 ((d.nM + 2 : Nat) : Int), .int .i64 d.nM, .slice (some ⟨iB, 0, none⟩) k icap] w fun e w' => MdPost d k ix0 w e w' := by
  have HST := hide hst
  have HG := hide hg
  have HIX := hide hix
  have HI := hide hi
  have hGlt := hg.lt
  have hm3 := hok.m2
  clear hst hg hix hi
  have hmk := run_make_row' (P := Yba.prog) 32 33 (.slice none 0 0) 24 Yba.underlying32 info33 rfl .i64 .i64 k (by omega) (by omega)
  go_enter Yba.func10, Yba.ntmps10
  go_wp2_with fail
  go_loopg [12] k (fun kk i wr => ∃ p : Nat, p + kk = k ∧ i = .int .i64 p ∧ Hid (∃ cb cc, CR d ix0 w.heap.size w.heap.size k p cb cc wr ∧ Kp (fun k => w.heap.size ≤ k) w wr))
  case atStart =>
    refine ⟨0, by omega, rfl, hide ⟨fun _ => 0, fun _ => 0, ⟨⟨_, World.rowIs_made w (.slice none 0 0) k 33⟩, fun j hj => by omega⟩, (Kp.refl _ _).alloc _⟩⟩
  case round =>
    obtain ⟨p, hp, rfl, HQ⟩ := hrel
    by_cases hlt : p < k
    · have hlt' : (p : Int) < (k : Int) := by omega
      obtain ⟨cb, cc, hcr, hkp⟩ := HQ.out
      have ci : wr.cell? ⟨iB, p, none⟩ = some (.int .i64 ((ix0 p : Nat) : Int)) := hkp.cell (HI.out p hlt) (by show ¬ (w.heap.size ≤ iB); omega)
      have CW := hide (mcands_walk d b y S (ix0 p) tv c sv wr hok (HIX.out p hlt) (by rw [hkp.view hS (fun k h => by omega)]; exact HST.out) (by have := hkp.size; omega) (hkp.gis HG.out (by omega)))
      have AA := hide (And.intro hcr hkp)
      clear hcr hkp HQ
      go_wp2_with fail
      refine CW.out.mono ?_
      rintro e w1 ⟨g, cap, rfl, ho, hgge, k1⟩
      obtain ⟨⟨f, hf⟩, hcr⟩ := AA.out.1
      have hclt := hf.lt
      have hf1 := k1.rowIs hf (by omega)
      have zc := hf1.frozen p
      have cc0 := hf1.cell hlt
      have hgc : g ≠ w.heap.size := by omega
      obtain ⟨L, hL⟩ : ∃ L, (cand d (ix0 p)).length = L := ⟨_, rfl⟩
      have hL10 : L ≤ 10 := by rw [← hL]; exact cand_len hok (HIX.out p hlt)
      have hf2 := hf1.set p (.slice (some ⟨g, 0, none⟩) (cand d (ix0 p)).length cap)
      have k2 := Kp.set1 w1 w.heap.size p (.slice (some ⟨g, 0, none⟩) (cand d (ix0 p)).length cap)
      have kk : Kp (fun k => w.heap.size ≤ k) w (w1.setCell ⟨w.heap.size, p, none⟩ (.slice (some ⟨g, 0, none⟩) (cand d (ix0 p)).length cap)) := (AA.out.2.trans' k1 (fun i hi e => by have := AA.out.2.size; omega)).setCell (fun _ => Nat.le_refl _) _
      have hnew : 0 < L → CR d ix0 w.heap.size w.heap.size k (p + 1) (fun j => if j = p then g else cb j) (fun j => if j = p then cap else cc j) (w1.setCell ⟨w.heap.size, p, none⟩ (.slice (some ⟨g, 0, none⟩) (cand d (ix0 p)).length cap)) := by
        intro hpos
        refine ⟨⟨_, hf2⟩, ?_⟩
        intro j hj
        by_cases e : j = p
        · subst e
          simp only [if_true]
          refine ⟨?_, k2.own ho hgc, by omega, by omega⟩
          rw [hf2.cell hlt, if_pos rfl]
        · simp only [if_neg e]
          obtain ⟨h1, h2, h3, h4⟩ := hcr j (by omega)
          refine ⟨?_, k2.own (k1.own h2 (by have := h2.lt; omega)) (by omega), h3, h4⟩
          rw [hf2.cell (by omega), if_neg e, ← hf1.cell (by omega)]
          exact k1.cell h1 (by show ¬ (wr.heap.size ≤ w.heap.size); omega)
      have cst : (w1.setCell ⟨w.heap.size, p, none⟩ (.slice (some ⟨g, 0, none⟩) (cand d (ix0 p)).length cap)).cell? ⟨w.heap.size, p, none⟩ = some (.slice (some ⟨g, 0, none⟩) (cand d (ix0 p)).length cap) := by rw [hf2.cell hlt, if_pos rfl]
      rw [hL] at cst hnew kk ⊢
      have HN := hide hnew
      have HKK := hide kk
      have HLL := hide hL
      clear hf1 hf2 k2 kk hnew hf hcr ho k1 hL
      by_cases h0 : L = 0
      · subst h0
        go_wp2
        go_ret2
        refine ⟨HKK.out, .inr ⟨rfl, ?_⟩⟩
        intro iy hv
        have : iy p < (cand d (ix0 p)).length := hv p hlt
        have hl := HLL.out
        omega
      · have hpos : (0 : Int) < (L : Int) := by omega
        have hLn : ¬ ((L : Int) = 0) := by omega
        go_wp2
        go_roundg (k - (p + 1))
        case measure => omega
        case rel => exact ⟨p + 1, by omega, by go_num, hide ⟨_, _, HN.out (by omega), HKK.out⟩⟩
    · have hnl : ¬ ((p : Int) < (k : Int)) := by omega
      obtain rfl : p = k := by omega
      obtain ⟨cb, cc, hcr, hkp⟩ := HQ.out
      have hmk2 := run_make_row' (P := Yba.prog) 28 3 (.int .i64 0) 8 Yba.underlying28 info3 rfl .i64 .i64 p (by omega) (by omega)
      have hmk3 : ∀ w, (Instr.makeSlice 33 (.int .i64 ((d.nM : Int) + 2)) (.int .i64 ((d.nM : Int) + 2))).run Yba.prog w = .ok (.slice (some ⟨w.heap.size, 0, none⟩) (d.nM + 2) (d.nM + 2)) (w.alloc (.cells (madeCells #[.int .i32 0] (d.nM + 2)) 48)) := run_make_row' (P := Yba.prog) 33 48 (.int .i32 0) 4 Yba.underlying33 info48 rfl .i64 .i64 (d.nM + 2) (by omega) (by omega)
      have ra := World.rowIs_made wr (.int .i64 0) p 3
      have rb := World.rowIs_made (wr.alloc (.cells (madeCells #[.int .i64 0] p) 3)) (.int .i32 0) (d.nM + 2) 48
      have hsz : (wr.alloc (.cells (madeCells #[.int .i64 0] p) 3)).heap.size = wr.heap.size + 1 := by simp
      rw [hsz] at rb
      have ka : Kp (fun _ => False) wr ((wr.alloc (.cells (madeCells #[.int .i64 0] p) 3)).alloc (.cells (madeCells #[.int .i32 0] (d.nM + 2)) 48)) := ((Kp.refl _ _).alloc _).alloc _
      have ra2 := ra.alloc (.cells (madeCells #[.int .i32 0] (d.nM + 2)) 48)
      have hwr := hkp.size
      have AA := hide (And.intro hcr (And.intro hkp (And.intro ra2 (And.intro rb ka))))
      clear hcr hkp ra rb ka ra2 HQ hmk hsz
      go_wp2_with fail
      clear hmk2 hmk3
      obtain ⟨w2, hw2⟩ : ∃ w2, (wr.alloc (.cells (madeCells #[.int .i64 0] p) 3)).alloc (.cells (madeCells #[.int .i32 0] (d.nM + 2)) 48) = w2 := ⟨_, rfl⟩
      rw [hw2] at AA ⊢
      clear hw2
      obtain ⟨A, hA⟩ : ∃ A, wr.heap.size = A := ⟨_, rfl⟩
      rw [hA] at AA ⊢
      have HA := hide hA
      have hAw : w.heap.size ≤ A := by omega
      clear hA hwr
      go_loopg [] (Plain.togo (fun j => cand d (ix0 j)) (fun _ => 0) p 0) (fun kk wq => Hid (∃ a : Nat → Nat, wq.rowIs A 3 p (fun j => .int .i64 ((a j : Nat) : Int)) ∧ (∃ s : Nat → Int, wq.rowIs (A + 1) 48 (d.nM + 2) (fun n => .int .i32 (s n))) ∧ CR d ix0 w.heap.size w.heap.size p p cb cc wq ∧ (∀ j, j < p → cb j < A) ∧ Kp (fun k => w.heap.size ≤ k) w wq ∧ Plain.Valid p (fun j => cand d (ix0 j)) a ∧ Plain.Ahead p (fun j => cand d (ix0 j)) (rest d) a ∧ Plain.togo (fun j => cand d (ix0 j)) a p 0 = kk))
      case atStart =>
        obtain ⟨hcr, hkp, ra2, rb, ka⟩ := AA.out
        refine hide ⟨fun _ => 0, ra2, ⟨fun _ => 0, rb⟩, ?_, ?_, hkp.trans' ka (fun _ _ h => h.elim), ?_, ?_, rfl⟩
        · obtain ⟨⟨f, hf⟩, h⟩ := hcr
          refine ⟨⟨f, ka.rowIs hf id⟩, ?_⟩
          intro j hj
          obtain ⟨h1, h2, h3, h4⟩ := h j hj
          exact ⟨ka.cell h1 id, ka.own h2 id, h3, h4⟩
        · intro j hj
          have h8 := (hcr.2 j hj).2.1.lt
          have h9 : wr.heap.size = A := HA.out
          rw [h9] at h8
          exact h8
        · intro j hj
          exact (hcr.2 j hj).2.2.1
        · rintro iy _ ⟨q, _, _, h⟩
          exact absurd h (Nat.not_lt_zero _)
      case round =>
        have HQ2 := hrel
        clear hrel AA
        obtain ⟨wm, rfl⟩ : ∃ wm, wm = wr := ⟨_, rfl⟩
        obtain ⟨a, hra, ⟨s0, hrs⟩, hcr, hcA, hkp, hval, hah, htg⟩ := HQ2.out
        have HM := hide (And.intro hra (And.intro hcr (And.intro hcA (And.intro hkp (And.intro hval (And.intro hah htg))))))
        have HRS := hide hrs
        clear hra hrs hcr hcA hkp hval hah htg HQ2
        go_wp2_with fail
        go_loopg [15] (d.nM + 2) (fun kk i wq => ∃ q : Nat, q + kk = d.nM + 2 ∧ i = .int .i64 q ∧ Hid (Kp (fun k => k = A + 1) wm wq ∧ ∃ s : Nat → Int, wq.rowIs (A + 1) 48 (d.nM + 2) (fun n => .int .i32 (s n)) ∧ ∀ n, n < q → s n = -1))
        case atStart => exact ⟨0, by omega, rfl, hide ⟨Kp.refl _ _, s0, HRS.out, fun n hn => by omega⟩⟩
        case round =>
          obtain ⟨q, hq, rfl, HR2⟩ := hrel
          by_cases hlq : q < d.nM + 2
          · have hlq' : (q : Int) < (d.nM : Int) + 2 := by omega
            obtain ⟨k3, s3, r3, h3⟩ := HR2.out
            have c3 := r3.cell hlq
            have z3 := r3.frozen q
            have AA := hide (And.intro k3 (And.intro r3 h3))
            clear k3 r3 h3 HR2
            go_wp2
            go_roundg (d.nM + 2 - (q + 1))
            case measure => omega
            case rel =>
              obtain ⟨k3, r3, h3⟩ := AA.out
              refine ⟨q + 1, by omega, by go_num, hide ⟨k3.setCell (fun _ => rfl) _, Plain.upd s3 q (-1), ?_, ?_⟩⟩
              · refine (r3.set q _).congr ?_
                intro i hi
                unfold Plain.upd
                split <;> rfl
              · intro n hn
                unfold Plain.upd
                by_cases e : n = q
                · rw [if_pos e]
                · rw [if_neg e]; exact h3 n (by omega)
          · have hnq : ¬ ((q : Int) < (d.nM : Int) + 2) := by omega
            obtain ⟨k3, s3, r3, h3⟩ := HR2.out
            have AA := hide (And.intro k3 (And.intro (r3.congr (g := fun n => .int .i32 ((fun _ => (-1 : Int)) n)) (fun i hi => by show Value.int .i32 (s3 i) = _; rw [h3 i (by omega)])) trivial))
            clear k3 r3 h3 HR2
            go_wp2_with fail
            go_loopg [16, 17] p (fun kk okv i wq => ∃ (q : Nat) (ok : Bool), q + kk = p ∧ i = .int .i64 q ∧ okv = .bool ok ∧ Hid (Kp (fun k => k = A + 1) wm wq ∧ ∃ s : Nat → Int, wq.rowIs (A + 1) 48 (d.nM + 2) (fun n => .int .i32 (s n)) ∧ (ok = true → Plain.PutOk (rest d) q (Plain.val (fun j => cand d (ix0 j)) a) s) ∧ (ok = false → ¬ Plain.Cons p (rest d) (Plain.val (fun j => cand d (ix0 j)) a))))
            case atStart => exact ⟨0, true, by omega, rfl, rfl, hide ⟨AA.out.1, _, AA.out.2.1, fun _ => Plain.PutOk.zero _ _, fun h => by cases h⟩⟩
            case round =>
              rename_i qq hqq hnq0
              obtain ⟨q, ok, hq, rfl, rfl, HR3⟩ := hrel
              obtain ⟨k3, s3, r3, h3, h4⟩ := HR3.out
              by_cases hgo : q < p ∧ ok = true
              · obtain ⟨hlq, rfl⟩ := hgo
                have hlq' : (q : Int) < (p : Int) := by omega
                obtain ⟨hra, hcr, hcA, hkp, hval, hah, htg⟩ := HM.out
                obtain ⟨⟨f, hf⟩, hcr⟩ := hcr
                obtain ⟨e1, e2, e3, e4⟩ := hcr q hlq
                have hv0 : a q < (cand d (ix0 q)).length := hval q hlq
                obtain ⟨L, hL⟩ : ∃ L, (cand d (ix0 q)).length = L := ⟨_, rfl⟩
                obtain ⟨v, hv⟩ : ∃ v, (cand d (ix0 q)).getD (a q) 0 = v := ⟨_, rfl⟩
                have hvV : v < d.nV := by
                  refine cand_lt hok (HIX.out q hlq) v ?_
                  rw [← hv, List.getD_eq_getElem?_getD, List.getElem?_eq_getElem hv0]
                  exact List.getElem_mem _
                have hvl : Plain.val (fun j => cand d (ix0 j)) a q = v := hv
                have hcbq := hcA q hlq
                have n1 : w.heap.size ≠ A + 1 := by omega
                have n2 : A ≠ A + 1 := by omega
                have n3 : cb q ≠ A + 1 := by omega
                have d1 := k3.cell e1 n1
                have d2 := k3.cell (hra.cell hlq) n2
                have d3 := k3.cell (e2.cell (a q) hv0) n3
                rw [hv] at d3
                rw [hL] at d1 hv0
                have hav : ((a q : Nat) : Int) < (L : Int) := by omega
                obtain ⟨aq, haq⟩ : ∃ aq, a q = aq := ⟨_, rfl⟩
                rw [haq] at d2 d3 hav
                have PW := hide (fun w' (hk' : Kp (fun k => k = A + 1) wr w') (hr' : w'.rowIs (A + 1) 48 (d.nM + 2) (fun n => .int .i32 (s3 n))) => put_walk d b y S v (A + 1) (d.nM + 2) tv c sv s3 w' hok hvV (by rw [(hkp.trans' ((k3.trans hk').mono (N := fun k => w.heap.size ≤ k) (fun i _ e => by omega)) (fun _ _ h => h)).view hS (fun k h => by omega)]; exact HST.out) (by have := hkp.size; have := k3.size; have := hk'.size; omega) (by omega) (by omega) ((k3.trans hk').gis (hkp.gis HG.out (by omega)) (by omega)) hr')
                have h3' := h3 rfl
                have HH := hide (And.intro k3 (And.intro r3 (And.intro h3' hvl)))
                have HVV := hide (And.intro hvV (And.intro hv haq))
                clear k3 r3 h3 h3' h4 hvl hra hcr hcA hkp hval hah htg hf e1 e2 e3 e4 hcbq hv hvV haq hv0 HR3 hL
                go_wp2_with fail
                go_region_held3 (fun w' => w'.cell? ⟨w.heap.size, q, none⟩ = some (.slice (some ⟨cb q, 0, none⟩) L (cc q)) ∧ w'.cell? ⟨A, q, none⟩ = some (.int .i64 (aq : Int)) ∧ w'.cell? ⟨cb q, aq, none⟩ = some (.int .i32 (v : Int)) ∧ Hid (Kp (fun k => k = A + 1) wr w')) (first | exact mo_drew d1 d2 d3 (Kp.refl _ _) | exact mo_step n1 n2 n3 (by assumption) (by assumption))
                  (first
                    | (go_at_call 22; refine (PW.out _ ((Kp.refl _ _).drew) HH.out.2.1).mono ?_; rintro e w4 ⟨ok4, s4, rfl, hr4, hk4, hp4⟩))
                all_goals go_wp2
                go_roundg (p - (q + 1))
                case measure => omega
                case rel =>
                  obtain ⟨k3, r3, h3, hvl⟩ := HH.out
                  refine ⟨q + 1, ok4, by omega, by go_num, rfl, hide ⟨(k3.drew).trans hk4, s4, hr4, ?_, ?_⟩⟩
                  · intro h
                    rw [h, if_pos rfl, ← hvl] at hp4
                    exact h3.step hp4
                  · intro h
                    rw [h, if_neg Bool.false_ne_true, ← hvl] at hp4
                    exact h3.not_cons hlq hp4
              · cases ok with
                | true =>
                  have hqp : ¬ ((q : Int) < (p : Int)) := by
                    intro h; exact hgo ⟨by omega, rfl⟩
                  obtain rfl : q = p := by omega
                  have hcons := (h3 rfl).cons
                  have HCN := hide hcons
                  have HK3 := hide k3
                  clear h3 h4 hcons k3 r3 HR3 hgo
                  have hmk4 := run_make_row' (P := Yba.prog) 33 48 (.int .i32 0) 4 Yba.underlying33 info48 rfl .i64 .i64 q (by omega) (by omega)
                  have ro := World.rowIs_made wr (.int .i32 0) q 48
                  have ko : Kp (fun _ => False) wr (wr.alloc (.cells (madeCells #[.int .i32 0] q) 48)) := (Kp.refl _ _).alloc _
                  have RO := hide (And.intro ro ko)
                  clear ro ko
                  go_wp2_with fail
                  clear hmk4
                  obtain ⟨wo, rfl⟩ : ∃ wo, wo = wr := ⟨_, rfl⟩
                  go_loopg [19] q (fun kk i wq => ∃ z : Nat, z + kk = q ∧ i = .int .i64 z ∧ Hid (Kp (fun k => k = A + 1 ∨ wo.heap.size ≤ k) wm wq ∧ ∃ g : Nat → Int, wq.rowIs wo.heap.size 48 q (fun j => .int .i32 (g j)) ∧ ∀ j, j < z → g j = ((Plain.val (fun j => cand d (ix0 j)) a j : Nat) : Int)))
                  case atStart =>
                    refine ⟨0, by omega, rfl, hide ⟨(HK3.out.mono (fun _ _ e => .inl e)).trans' RO.out.2 (fun _ _ h => h.elim), _, RO.out.1, fun j hj => by omega⟩⟩
                  case round =>
                    obtain ⟨z, hz, rfl, HZ⟩ := hrel
                    by_cases hlz : z < q
                    · have hlz' : (z : Int) < (q : Int) := by omega
                      obtain ⟨kz, gz, rz, hgz⟩ := HZ.out
                      obtain ⟨hra, hcr, hcA, hkp, hval, hah, htg⟩ := HM.out
                      obtain ⟨⟨f, hf⟩, hcr⟩ := hcr
                      obtain ⟨e1, e2, e3, e4⟩ := hcr z hlz
                      have hv0 : a z < (cand d (ix0 z)).length := hval z hlz
                      obtain ⟨L, hL⟩ : ∃ L, (cand d (ix0 z)).length = L := ⟨_, rfl⟩
                      obtain ⟨v, hv⟩ : ∃ v, (cand d (ix0 z)).getD (a z) 0 = v := ⟨_, rfl⟩
                      have hwmo : wm.heap.size ≤ wo.heap.size := HK3.out.size
                      have hAm : A + 1 < wm.heap.size := HRS.out.lt
                      have m1 : ∀ k, k < wm.heap.size → k ≠ A + 1 → ¬ (k = A + 1 ∨ wo.heap.size ≤ k) := by
                        intro k h1 h2 h3
                        omega
                      have d1 := kz.cell e1 (m1 _ (World.block_lt_of_cell? _ _ e1) (by show w.heap.size ≠ A + 1; omega))
                      have d2 := kz.cell (hra.cell hlz) (m1 _ (World.block_lt_of_cell? _ _ (hra.cell hlz)) (by show A ≠ A + 1; omega))
                      have e2c := e2.cell (a z) hv0
                      have hcbz := hcA z hlz
                      have d3 := kz.cell e2c (m1 _ (World.block_lt_of_cell? _ _ e2c) (by show cb z ≠ A + 1; omega))
                      rw [hv] at d3
                      rw [hL] at d1 hv0
                      obtain ⟨az, haz⟩ : ∃ az, a z = az := ⟨_, rfl⟩
                      rw [haz] at d2 d3 hv0
                      have hav : (az : Int) < (L : Int) := by omega
                      have cz := rz.cell hlz
                      have zz := rz.frozen z
                      have HZ2 := hide (And.intro kz (And.intro rz (And.intro hgz (And.intro hv haz))))
                      clear kz rz hgz hv haz HZ hra hcr hcA hkp hval hah htg hf e1 e2 e3 e4 e2c hcbz hv0 hL m1 hwmo hAm
                      go_wp2_with fail
                      go_region
                      all_goals (go_wp2; go_roundg (q - (z + 1)))
                      all_goals first
                        | omega
                        | (obtain ⟨kz, rz, hgz, hv, haz⟩ := HZ2.out
                           have hwz := rz.lt
                           refine ⟨z + 1, by omega, by go_num, hide ⟨?_, fun j => if j = z then ((v : Nat) : Int) else gz j, ?_, ?_⟩⟩
                           · exact (kz.drew).setCell (fun _ => .inr (Nat.le_refl _)) _
                           · refine (rz.drew.set z _).congr ?_
                             intro j hj
                             show (if j = z then _ else _) = Value.int .i32 (if j = z then _ else _)
                             split <;> rfl
                           · intro j hj
                             show (if j = z then ((v : Nat) : Int) else gz j) = _
                             by_cases e : j = z
                             · rw [if_pos e, e]
                               show ((v : Nat) : Int) = (((cand d (ix0 z)).getD (a z) 0 : Nat) : Int)
                               rw [hv]
                             · rw [if_neg e]; exact hgz j (by omega))
                    · have hnz : ¬ ((z : Int) < (q : Int)) := by omega
                      go_wp2
                      go_ret2
                      obtain ⟨kz, gz, rz, hgz⟩ := HZ.out
                      obtain ⟨hra, hcr, hcA, hkp, hval, hah, htg⟩ := HM.out
                      have hwmo : wm.heap.size ≤ wo.heap.size := HK3.out.size
                      have hwsz := hkp.size
                      refine ⟨hkp.trans' kz ?_, .inl ⟨a, wo.heap.size, ⟨hval, HCN.out, fun iy hv _ hl => hah iy hv hl⟩, rfl, rz.congr ?_⟩⟩
                      · rintro i hi (e | e)
                        · omega
                        · omega
                      · intro j hj
                        show Value.int .i32 (gz j) = _
                        rw [hgz j (by omega)]
                | false =>
                  have hncons := h4 rfl
                  have HCN := hide hncons
                  have HK3 := hide k3
                  have HRR := hide r3
                  clear h3 h4 hncons k3 r3 hgo
                  obtain ⟨wo, rfl⟩ : ∃ wo, wo = wr := ⟨_, rfl⟩
                  rcases Nat.lt_or_ge q p with hqp | hqp
                  all_goals
                    first
                      | have hqp' : (q : Int) < (p : Int) := by omega
                      | have hqp' : ¬ ((q : Int) < (p : Int)) := by omega
                    go_wp2_with fail
                    go_loopg [20] p (fun kk jv wq => ∃ z : Int, jv = .int .i64 z ∧ z = (kk : Int) - 1 ∧ kk ≤ p ∧ Hid (Kp (fun k => k = A + 1 ∨ k = A) wm wq ∧ wq.rowIs A 3 p (fun t => .int .i64 (if kk ≤ t then 0 else ((a t : Nat) : Int))) ∧ (∀ t, kk ≤ t → t < p → a t + 1 = (cand d (ix0 t)).length) ∧ ∃ s : Nat → Int, wq.rowIs (A + 1) 48 (d.nM + 2) (fun n => .int .i32 (s n))))
                    case atStart =>
                      obtain ⟨hra, hcr, hcA, hkp, hval, hah, htg⟩ := HM.out
                      refine ⟨(p : Int) - 1, by go_num, rfl, Nat.le_refl _, hide ⟨HK3.out.mono (fun _ _ e => .inl e), (HK3.out.rowIs hra (by omega)).congr ?_, fun t h1 h2 => by omega, _, HRR.out⟩⟩
                      intro t ht
                      rw [if_neg (by omega)]
                    case round =>
                      obtain ⟨z, rfl, hz, hkk, HZ⟩ := hrel
                      by_cases h0 : gk = 0
                      · subst h0
                        have hz1 : z = -1 := by omega
                        subst hz1
                        clear hz
                        go_wp2
                        go_ret2
                        obtain ⟨hra, hcr, hcA, hkp, hval, hah, htg⟩ := HM.out
                        obtain ⟨kz, rz, hlast, sz, rsz⟩ := HZ.out
                        refine ⟨hkp.trans' kz ?_, .inr ⟨rfl, Plain.ahead_end hah HCN.out (fun t ht => hlast t (Nat.zero_le _) ht)⟩⟩
                        rintro i hi (e | e)
                        · omega
                        · omega
                      · obtain ⟨t0, ht0⟩ : ∃ t0, gk = t0 + 1 := ⟨gk - 1, by omega⟩
                        have hzt : z = (t0 : Int) := by omega
                        subst hzt
                        have hz0 : (0 : Int) ≤ (t0 : Int) := by omega
                        have htp : (t0 : Int) < (p : Int) := by omega
                        have htpn : t0 < p := by omega
                        obtain ⟨hra, hcr, hcA, hkp, hval, hah, htg⟩ := HM.out
                        obtain ⟨kz, rz, hlast, sz, rsz⟩ := HZ.out
                        obtain ⟨e1, e2, e3, e4⟩ := hcr.2 t0 htpn
                        have hv0 : a t0 < (cand d (ix0 t0)).length := hval t0 htpn
                        have hL10 : (cand d (ix0 t0)).length ≤ 10 := cand_len hok (HIX.out t0 htpn)
                        obtain ⟨L, hL⟩ : ∃ L, (cand d (ix0 t0)).length = L := ⟨_, rfl⟩
                        obtain ⟨at0, hat⟩ : ∃ at0, a t0 = at0 := ⟨_, rfl⟩
                        have hcA0 : w.heap.size < A := by
                          have := hcA t0 htpn
                          omega
                        have d1 := kz.cell e1 (by show ¬ (w.heap.size = A + 1 ∨ w.heap.size = A); omega)
                        have d2 := rz.cell htpn
                        rw [if_neg (by omega), hat] at d2
                        have zz := rz.frozen t0
                        have rz2 := rz.set t0 (.int .i64 ((at0 : Int) + 1))
                        have kz2 : Kp (fun k => k = A + 1 ∨ k = A) wm (wr.setCell ⟨A, t0, none⟩ (.int .i64 ((at0 : Int) + 1))) := kz.setCell (fun _ => .inr rfl) _
                        have rsz2 := (Kp.set1 wr A t0 (.int .i64 ((at0 : Int) + 1))).rowIs rsz (by omega)
                        have d1' := (Kp.set1 wr A t0 (.int .i64 ((at0 : Int) + 1))).cell d1 (by show ¬ (w.heap.size = A); omega)
                        have d2' := rz2.cell htpn
                        rw [if_pos rfl] at d2'
                        have zz' := rz2.frozen t0
                        rw [hL] at d1 d1' hL10 hv0
                        rw [hat] at hv0
                        have HZ2 := hide (And.intro kz2 (And.intro rz2 (And.intro hlast (And.intro hL (And.intro hat rsz2)))))
                        have hat10 : (at0 : Int) ≤ 10 := by omega
                        have HJ := hide ht0
                        clear rsz rsz2 kz rz hlast HZ hra hcr hcA hkp hval hah htg e1 e2 e3 e4 hL hat kz2 rz2 hz ht0 h0
                        by_cases hlt2 : at0 + 1 < L
                        · have hlt2' : (at0 : Int) + 1 < (L : Int) := by omega
                          go_wp2_with fail
                          go_quiet (fail)
                          go_wp2
                          obtain ⟨kz2, rz2, hlast, hL, hat, rsz2⟩ := HZ2.out
                          obtain ⟨hra, hcr, hcA, hkp, hval, hah, htg⟩ := HM.out
                          have ht0 := HJ.out
                          have hturn := Plain.togo_turn (fun j => cand d (ix0 j)) a (fun t => if t < t0 then a t else if t = t0 then at0 + 1 else 0) t0 p 0 (Nat.zero_le _) (by omega) (fun j hj => by show (if j < t0 then a j else _) = _; rw [if_pos hj]) (by show (if t0 < t0 then _ else if t0 = t0 then at0 + 1 else 0) = _; rw [if_neg (Nat.lt_irrefl _), if_pos rfl, hat]) (by show (if t0 < t0 then _ else if t0 = t0 then at0 + 1 else 0) < (cand d (ix0 t0)).length; rw [if_neg (Nat.lt_irrefl _), if_pos rfl, hL]; exact hlt2) (fun j h1 h2 => ⟨by show (if j < t0 then _ else if j = t0 then _ else 0) = 0; rw [if_neg (by omega), if_neg (by omega)], (hcr.2 j (by omega)).2.2.1⟩) (fun j h1 h2 => hlast j (by omega) (by omega))
                          go_roundg (Plain.togo (fun j => cand d (ix0 j)) (fun t => if t < t0 then a t else if t = t0 then at0 + 1 else 0) p 0)
                          case measure => rw [← htg]; exact hturn
                          case rel =>
                            have k9 := kz2.drewN nq
                            refine hide ⟨fun t => if t < t0 then a t else if t = t0 then at0 + 1 else 0, ?_, ?_, ?_, hcA, ?_, ?_, ?_, rfl⟩
                            · refine (show (World.rowIs _ _ _ _ _) from rz2).congr ?_
                              intro t ht
                              show (if t = t0 then Value.int .i64 ((at0 : Int) + 1) else Value.int .i64 (if gk ≤ t then 0 else ((a t : Nat) : Int))) = Value.int .i64 (((if t < t0 then a t else if t = t0 then at0 + 1 else 0 : Nat)) : Int)
                              by_cases h1 : t = t0
                              · rw [if_pos h1, if_neg (by omega), if_pos h1]; rfl
                              · rw [if_neg h1]
                                by_cases h2 : t < t0
                                · rw [if_neg (by omega), if_pos h2]
                                · rw [if_pos (by omega), if_neg h2, if_neg h1]; rfl
                            · exact ⟨sz, rsz2⟩
                            · obtain ⟨⟨f, hf⟩, hc⟩ := hcr
                              have nA : ∀ i, i < A → ¬ (i = A + 1 ∨ i = A) := fun i hi h => by omega
                              refine ⟨⟨f, k9.rowIs hf (nA _ hcA0)⟩, ?_⟩
                              intro j hj
                              obtain ⟨f1, f2, f3, f4⟩ := hc j hj
                              exact ⟨k9.cell f1 (nA _ hcA0), k9.own f2 (nA _ (hcA j hj)), f3, f4⟩
                            · refine hkp.trans' k9 ?_
                              rintro i hi (e | e)
                              · omega
                              · omega
                            · intro j hj
                              show (if j < t0 then a j else if j = t0 then at0 + 1 else 0) < (cand d (ix0 j)).length
                              by_cases h1 : j < t0
                              · rw [if_pos h1]; exact hval j hj
                              · rw [if_neg h1]
                                by_cases h2 : j = t0
                                · rw [if_pos h2, h2, hL]; exact hlt2
                                · rw [if_neg h2]; exact (hcr.2 j hj).2.2.1
                            · refine Plain.ahead_turn htpn hah HCN.out (fun j hj => ?_) ?_ (fun j h1 h2 => ?_) (fun j h1 h2 => hlast j (by omega) h2)
                              · show (if j < t0 then a j else _) = _
                                rw [if_pos hj]
                              · show (if t0 < t0 then _ else if t0 = t0 then at0 + 1 else 0) = _
                                rw [if_neg (Nat.lt_irrefl _), if_pos rfl, hat]
                              · show (if j < t0 then _ else if j = t0 then _ else 0) = 0
                                rw [if_neg (by omega), if_neg (by omega)]
                        · have hlt2' : ¬ ((at0 : Int) + 1 < (L : Int)) := by omega
                          go_wp2_with fail
                          go_quiet (fail)
                          go_wp2
                          have ht0 := HJ.out
                          go_roundg t0
                          case measure => omega
                          case rel =>
                            obtain ⟨kz2, rz2, hlast, hL, hat, rsz2⟩ := HZ2.out
                            have k9 := (kz2.drewN nq).setCell (a := ⟨A, t0, none⟩) (fun _ => .inr rfl) (.int .i64 0)
                            have r9 := (show (World.rowIs ((wr.setCell ⟨A, t0, none⟩ (.int .i64 ((at0 : Int) + 1))).drewN nq) _ _ _ _) from rz2).set t0 (.int .i64 0)
                            refine ⟨(t0 : Int) - 1, by go_num, rfl, by omega, hide ⟨k9, r9.congr ?_, ?_, sz, (Kp.set1 _ A t0 (.int .i64 0)).rowIs (show (World.rowIs ((wr.setCell ⟨A, t0, none⟩ (.int .i64 ((at0 : Int) + 1))).drewN nq) _ _ _ _) from rsz2) (by omega)⟩⟩
                            · intro t ht
                              show (if t = t0 then Value.int .i64 0 else (if t = t0 then Value.int .i64 ((at0 : Int) + 1) else Value.int .i64 (if gk ≤ t then 0 else ((a t : Nat) : Int)))) = Value.int .i64 (if t0 ≤ t then 0 else ((a t : Nat) : Int))
                              by_cases h1 : t = t0
                              · rw [if_pos h1, if_pos (by omega)]
                              · rw [if_neg h1, if_neg h1]
                                by_cases h2 : t0 ≤ t
                                · rw [if_pos (by omega), if_pos h2]
                                · rw [if_neg (by omega), if_neg h2]
                            · intro t h1 h2
                              by_cases h3 : t = t0
                              · rw [h3, hL, hat]; omega
                              · exact hlast t (by omega) h2
end Go.Proofs.Ybulkctjg
