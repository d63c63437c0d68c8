import Derived.Test.YbulkctjgFW
import Derived.Deep.RegionLaw
import Derived.Deep.DrawnRows
namespace Go.Proofs.Ybulkctjg
open Go.RowKit
set_option linter.unusedVariables false
attribute [local go_sem ↓] Go.wp_at_zero Go.wp_at_succ

def layF (i : Nat) (st by_ : Nat → Int) (sl : List Nat) (rl : List (Nat × Nat)) (t : Nat) : (Nat → Int) × (Nat → Int) × List Nat := (rl.take t).foldl (Plain.lay i) (st, by_, sl)
theorem layF_succ (i : Nat) (st by_ : Nat → Int) (sl : List Nat) (rl : List (Nat × Nat)) (t : Nat) (r : Nat × Nat) (h : rl[t]? = some r) : layF i st by_ sl rl (t + 1) = Plain.lay i (layF i st by_ sl rl t) r := by
  unfold layF
  rw [List.take_add_one, h, List.foldl_append]
  rfl
theorem layF_len (i : Nat) (st by_ : Nat → Int) (sl : List Nat) (rl : List (Nat × Nat)) : ∀ t, (layF i st by_ sl rl t).2.2.length ≤ sl.length + t := by
  intro t
  induction t with
  | zero => exact Nat.le_refl _
  | succ t ih =>
    by_cases h : t < rl.length
    · rw [layF_succ i st by_ sl rl t _ (List.getElem?_eq_getElem h)]
      unfold Plain.lay
      split
      · simp; omega
      · omega
    · unfold layF at ih ⊢
      rw [List.take_of_length_le (by omega)] at ih ⊢
      omega

theorem fr_drew {u v : World} {Q P : Nat} {x n : Value} {M : Nat → Prop} (h1 : v.cell? ⟨Q, 5, none⟩ = some x) (h2 : v.frozen? ⟨Q, 5, none⟩ = false) (h3 : v.cell? ⟨P, 0, none⟩ = some n) (h4 : Kp M u v) :
    v.drew.cell? ⟨Q, 5, none⟩ = some x ∧ v.drew.frozen? ⟨Q, 5, none⟩ = false ∧ v.drew.cell? ⟨P, 0, none⟩ = some n ∧ Hid (Kp M u v.drew) := ⟨h1, h2, h3, hide h4.drew⟩
theorem Kp.frozen {M : Nat → Prop} {u v : World} (k : Kp M u v) {a : Addr} {x : Value} (hc : u.cell? a = some x) (h : u.frozen? a = false) (ha : ¬ M a.block) : v.frozen? a = false := by
  have e := k.block a.block (World.block_lt_of_cell? u a hc) ha
  unfold World.frozen? at h ⊢
  rw [e]
  exact h
theorem fr_alloc {u v : World} {Q P : Nat} {x n : Value} {M : Nat → Prop} {o : Obj} (h : v.cell? ⟨Q, 5, none⟩ = some x ∧ v.frozen? ⟨Q, 5, none⟩ = false ∧ v.cell? ⟨P, 0, none⟩ = some n ∧ Hid (Kp M u v)) :
    (v.alloc o).cell? ⟨Q, 5, none⟩ = some x ∧ (v.alloc o).frozen? ⟨Q, 5, none⟩ = false ∧ (v.alloc o).cell? ⟨P, 0, none⟩ = some n ∧ Hid (Kp M u (v.alloc o)) := by
  have k : Kp (fun _ => False) v (v.alloc o) := (Kp.refl _ _).alloc o
  exact ⟨k.cell h.1 id, k.frozen h.1 h.2.1 id, k.cell h.2.2.1 id, hide (h.2.2.2.out.alloc o)⟩
theorem fr_step {u v z : World} {Q P : Nat} {x n s : Value} (nQ : ∀ k, s.ownBlock = some k → k ≠ Q) (nP : ∀ k, s.ownBlock = some k → k ≠ P) (h : v.cell? ⟨Q, 5, none⟩ = some x ∧ v.frozen? ⟨Q, 5, none⟩ = false ∧ v.cell? ⟨P, 0, none⟩ = some n ∧ Hid (Kp (fun k => s.ownBlock = some k) u v)) (k : Kp (fun k => s.ownBlock = some k) v z) :
    z.cell? ⟨Q, 5, none⟩ = some x ∧ z.frozen? ⟨Q, 5, none⟩ = false ∧ z.cell? ⟨P, 0, none⟩ = some n ∧ Hid (Kp (fun k => s.ownBlock = some k) u z) :=
  ⟨k.cell h.1 (fun e => nQ _ e rfl), k.frozen h.1 h.2.1 (fun e => nQ _ e rfl), k.cell h.2.2.1 (fun e => nP _ e rfl), hide (h.2.2.2.out.trans k)⟩

theorem Own.le_cap {w : World} {t g n cap : Nat} {xs : List Nat} (h : Own w t g n cap xs) : n ≤ cap := by
  rcases h.2 with ⟨hv, _⟩ | ⟨g', cap', cur, hv, hb, hg, hnc, hmx, hcs, htk⟩
  · cases hv
  · injection hv with h1 h2 h3
    subst h3
    omega

set_option maxRecDepth 100000 in
set_option maxHeartbeats 4000000 in
theorem from_walk (d : D) (b : Bk) (y : Dy) (S : Nat) (q : Sq) (C : Nat → List Nat) (cb cc : Nat → Nat) (hok : d.Ok) (hy : y.Ok S) (hk : q.k ≤ 5) (hC : ∀ j, j < q.k → ∀ v, v ∈ C j → v < d.nV) (hC10 : ∀ j, j < q.k → (C j).length ≤ 10) :
    ∀ (n i : Nat), q.k - i = n → i ≤ q.k → ∀ (sf pr : Nat → Prop) (w : World) (setv : Value) (ix : Nat → Nat) (pf st by_ : Nat → Int) (sl : List Nat), FW d b y S q C cb cc sf pr w setv pf st by_ sl → FL d C i ix pf st by_ sl →
      Calls Yba.prog 20 #[.pointer (some ⟨q.Q, 0, none⟩), .int .i64 (i : Int)] w fun e w' => FPost d b y S q C cb cc sf i ix st by_ sl w e w' := by
  intro n
  induction n with
  | zero =>
    intro i hn hi sf pr w setv ix pf st by_ sl fw fl
    obtain rfl : i = q.k := by omega
    have c1 := fw.hq.c1
    have HW := hide fw
    have HL := hide fl
    clear fw fl
    go_enter Yba.func20, Yba.ntmps20
    go_wp2
    go_ret2
    exact ⟨Kp.refl _ _, .inl ⟨ix, pr, setv, pf, st, by_, sl, rfl, Plain.firstFrom_top HL.out.vl HL.out.ok.cons, fun j hj => rfl, HW.out, HL.out⟩⟩
  | succ n ih =>
    intro i hn hi sf pr w setv ix pf st by_ sl fw fl
    have hik : i < q.k := by omega
    have hik' : (i : Int) < (q.k : Int) := by omega
    have hik2 : ¬ ((i : Int) = (q.k : Int)) := by omega
    have hbf : ((i : Int) == (q.k : Int)) = false := by simp; omega
    have IH := hide (ih (i + 1) (by omega) (by omega))
    have HC := hide hC
    have hCl := hC10 i hik
    clear ih
    have fw1 := fw.more hy (.cells (madeCells #[.bool false] i) 4)
    have hmk := run_make_row' (P := Yba.prog) 37 4 (.bool false) 1 Yba.underlying37 info4 rfl .i64 .i64 i (by omega) (by omega)
    have rB := World.rowIs_made w (.bool false) i 4
    have c1 := fw.hq.c1
    have c1' := fw1.hq.c1
    have cc0 := (fw1.cs i hik).1
    obtain ⟨n0, hn0⟩ : ∃ n0, (C i).length = n0 := ⟨_, rfl⟩
    rw [hn0] at cc0 hCl
    have hcl : q.cB < w.heap.size ∧ ∀ j, j < q.k → cb j < w.heap.size := ⟨fw.pl _ (fw.sp _ fw.cf.1), fun j hj => fw.pl _ (fw.sp _ (fw.cf.2 j hj))⟩
    have HW := hide fw
    have HL := hide fl
    have HW1 := hide (And.intro fw1 (And.intro rB hcl))
    have HN0 := hide hn0
    clear fw fl fw1 rB hcl hn0 hC hC10
    go_enter Yba.func20, Yba.ntmps20
    go_wp2_with fail
    obtain ⟨w1, hw1⟩ : ∃ w1, w.alloc (.cells (madeCells #[.bool false] i) 4) = w1 := ⟨_, rfl⟩
    obtain ⟨Bb, hBb⟩ : ∃ Bb, w.heap.size = Bb := ⟨_, rfl⟩
    have K1 := hide (show Kp (fun _ => False) w w1 from hw1 ▸ (Kp.refl _ w).alloc _)
    rw [hw1, hBb] at HW1
    rw [hw1, hBb]
    have HB := hide hBb
    have HBS : Hid (S ≤ Bb) := hide (by obtain ⟨_, _, _, _, _, g, _⟩ := HW.out.gi; have := g.hS; omega)
    clear hw1 hBb hmk c1 c1' cc0
    go_loopg [41] n0 (fun kk pv wr => ∃ p : Nat, p + kk = n0 ∧ pv = .int .i64 p ∧ Hid (∃ (pr' : Nat → Prop) (setv' : Value) (pf' by' : Nat → Int) (bl : Nat → Bool), FW d b y S q C cb cc (fun k => sf k ∨ k = Bb) pr' wr setv' pf' st by' sl ∧ FL d C i ix pf' st by' sl ∧ (∀ n, st n ≠ -1 → by' n = by_ n) ∧ wr.rowIs Bb 4 i (fun j => .bool (bl j)) ∧ Kp (fun k => ¬ sf k) w wr ∧ ∀ z, z < p → Plain.Dead q.k C (rest d) i (Plain.val C ix) bl ((C i).getD z 0)))
    case atStart =>
      refine ⟨0, by omega, rfl, hide ⟨_, setv, pf, by_, fun _ => false, HW1.out.1, HL.out, fun _ _ => rfl, HW1.out.2.1, K1.out.mono (fun _ _ h => h.elim), fun z hz => by omega⟩⟩
    case round =>
      obtain ⟨p, hp, rfl, HP⟩ := hrel
      by_cases hlt : p < n0
      · have hlt' : (p : Int) < (n0 : Int) := by omega
        obtain ⟨pr', setv', pf', by', bl, fw, fl, hby, rB, kp, hdead⟩ := HP.out
        have hn0 := HN0.out
        have hpl : p < (C i).length := by omega
        obtain ⟨v, hv⟩ : ∃ v, (C i).getD p 0 = v := ⟨_, rfl⟩
        have hvm : v ∈ C i := by rw [← hv, List.getD_eq_getElem?_getD, List.getElem?_eq_getElem hpl]; exact List.getElem_mem _
        have hvV := HC.out i hik v hvm
        have c0 := fw.hq.c0
        have cv := (fw.cs i hik).2.cell p hpl
        rw [hv] at cv
        have hset : ∃ ao cp, setv' = .slice ao sl.length cp := by
          rcases fw.os.form with ⟨h, h2⟩ | ⟨g, cap, h, _⟩
          · exact ⟨none, 0, by rw [h, h2]; rfl⟩
          · exact ⟨_, _, h⟩
        obtain ⟨ao, cp, rfl⟩ := hset
        have RS := hide (fw.rests hok hy hvV)
        have HH := hide (And.intro fw (And.intro fl (And.intro hby (And.intro rB (And.intro kp hdead)))))
        have HV := hide (And.intro hpl (And.intro hv hvV))
        clear fw fl hby rB kp hdead HP hn0 hpl hv hvm hvV
        obtain ⟨wa, rfl⟩ : ∃ wa, wa = wr := ⟨_, rfl⟩
        go_wp2_with fail
        refine RS.out.mono ?_
        rintro e w2 ⟨cb0, rl, rfl, hperm, hrd, hcl, hncb, fw2, k2⟩
        have hl4 : rl.length ≤ 4 := by rw [hperm.length_eq]; exact rest_len hok HV.out.2.2
        have hrn : ∀ n x, (n, x) ∈ rl → n < d.nM + 2 := fun n x h => (rest_mem hok HV.out.2.2 (hperm.mem_iff.1 h)).1
        have RU := hide (ruledOutBy_walk d y q _ cb0 rl st by' w2 fw2.hq hrd hl4 hrn fw2.t fw2.yy HH.out.2.1.ge HH.out.2.1.by0)
        have rB2 := k2.rowIs HH.out.2.2.2.1 (fun h => h (HH.out.1.sp _ (.inr rfl)))
        have kp2 : Kp (fun k => ¬ sf k) w w2 := HH.out.2.2.2.2.1.trans' k2 (fun k _ h e => h (HH.out.1.sp k (.inl e)))
        have H2 := hide (And.intro hperm (And.intro hrd (And.intro hcl (And.intro hncb (And.intro fw2 (And.intro rB2 kp2))))))
        obtain ⟨T, hT⟩ : ∃ T, rl.length = T := ⟨_, rfl⟩
        rw [hT] at hl4 RU ⊢
        have HT := hide (And.intro hT hrn)
        clear hperm hrd hcl hncb fw2 k2 hrn rB2 kp2 RS hT c0 cv
        go_wp2_with fail
        refine RU.out.mono ?_
        rintro e w3 ⟨f, rfl, hru, k3⟩
        clear RU
        rcases hru with ⟨rfl, hfit⟩ | ⟨hf0, n1, x1, hm, hs1, hs2, hf⟩
        · have K3 := hide k3
          have HF := hide hfit
          clear k3 hfit
          have c5 := (K3.out.qis H2.out.2.2.2.2.1.hq id).c5
          obtain ⟨m0, hm0⟩ : ∃ m0, sl.length = m0 := ⟨_, rfl⟩
          have hm20 : m0 ≤ 20 := by have := HH.out.2.1.ln; omega
          rw [hm0] at c5
          go_wp2_with fail
          have HM0 := hide hm0
          clear hm0 c5
          go_loopg [66] T (fun kk iv wq => ∃ t : Nat, t + kk = T ∧ iv = .int .i64 t ∧ Hid (∃ pr2 setv2, FW d b y S q C cb cc (fun k => sf k ∨ k = Bb) pr2 wq setv2 pf' (layF i st by' sl rl t).1 (layF i st by' sl rl t).2.1 (layF i st by' sl rl t).2.2 ∧ (∀ k, pr2 k → pr' k ∨ w3.heap.size ≤ k) ∧ Kp (fun k => pr' k ∧ ¬ sf k ∧ k ≠ Bb) w3 wq))
          case atStart =>
            exact ⟨0, by omega, rfl, hide ⟨pr', _, H2.out.2.2.2.2.1.kp0 hy K3.out, fun k e => .inl e, Kp.refl _ _⟩⟩
          case round =>
            obtain ⟨t, ht, rfl, HQ⟩ := hrel
            obtain ⟨pr2, setv2, fw, hp2, kq⟩ := HQ.out
            obtain ⟨wb, rfl⟩ : ∃ wb, wb = wr := ⟨_, rfl⟩
            by_cases hlt2 : t < T
            · have hlt2' : (t : Int) < (T : Int) := by omega
              have hTT := HT.out.1
              obtain ⟨n1, x1, hnx⟩ : ∃ n x, rl[t]'(by omega) = (n, x) := ⟨_, _, rfl⟩
              have hnx2 : rl[t]? = some (n1, x1) := by rw [List.getElem?_eq_getElem (by omega), hnx]
              have hgd : rl.getD t (0, 0) = (n1, x1) := by rw [List.getD_eq_getElem?_getD, hnx2]; rfl
              have hmem : (n1, x1) ∈ rl := by rw [← hnx]; exact List.getElem_mem _
              have hn1 := HT.out.2 n1 x1 hmem
              have hn1' : (n1 : Int) < (d.nM : Int) + 2 := by omega
              have hstep := layF_succ i st by' sl rl t _ hnx2
              obtain ⟨hc0, hc1⟩ := ((H2.out.2.1.kp K3.out id).kp kq (fun h => H2.out.2.2.2.1 h.1)) t (by omega)
              rw [hgd] at hc0 hc1
              have hc0 : wb.cell? ⟨cb0, t * 2, none⟩ = some (.int .i32 (n1 : Int)) := hc0
              have hc1 : wb.cell? ⟨cb0, t * 2 + 1, none⟩ = some (.int .i32 (x1 : Int)) := hc1
              have fwa := fw.kp0 hy ((Kp.refl _ wb).alloc (.cells #[.int .i32 (n1 : Int), .int .i32 (x1 : Int)] 137))
              have q3 := fwa.hq.c3
              have ct := fwa.t.cell hn1
              obtain ⟨s0, hs0⟩ : ∃ s0, (layF i st by' sl rl t).1 n1 = s0 := ⟨_, rfl⟩
              rw [hs0] at ct
              have FQ := hide (And.intro fwa (And.intro hp2 (And.intro kq (And.intro hstep hs0))))
              have HQ0 := HQ
              clear fwa fw hp2 kq hstep hs0 hgd hmem hnx hnx2 HQ hTT
              by_cases h1 : s0 = -1
              · subst h1
                go_wp2_with fail
                go_quiet (fail)
                go_wp2_with fail
                have fwb := FQ.out.1.drewN hy nq
                have p0 : ((wb.alloc (.cells #[.int .i32 (n1 : Int), .int .i32 (x1 : Int)] 137)).drewN nq).cell? ⟨wb.heap.size, 0, none⟩ = some (.int .i32 (n1 : Int)) := cell_of_row _ _ 0 _ _ _ (heap_new wb _ 137)
                have p1 : ((wb.alloc (.cells #[.int .i32 (n1 : Int), .int .i32 (x1 : Int)] 137)).drewN nq).cell? ⟨wb.heap.size, 1, none⟩ = some (.int .i32 (x1 : Int)) := cell_of_row _ _ 1 _ _ _ (heap_new wb _ 137)
                have kb := (FQ.out.2.2.1.alloc (.cells #[.int .i32 (n1 : Int), .int .i32 (x1 : Int)] 137)).drewN nq
                have hsb : wb.heap.size < ((wb.alloc (.cells #[.int .i32 (n1 : Int), .int .i32 (x1 : Int)] 137)).drewN nq).heap.size := World.block_lt_of_cell? _ _ p0
                have hPt : wb.heap.size ≠ y.tB ∧ wb.heap.size ≠ y.yB ∧ wb.heap.size ≠ q.Q ∧ w3.heap.size ≤ wb.heap.size := by
                  obtain ⟨pr3, sv3, fw3, _, kq3⟩ := HQ0.out
                  have h1 := fw3.pl _ fw3.pq.1
                  have h2 := fw3.pl _ fw3.pq.2.2.1
                  have h3 := fw3.pl _ fw3.pq.2.2.2.1
                  have h4 := kq3.size
                  exact ⟨by omega, by omega, by omega, h4⟩
                obtain ⟨w4, hw4⟩ : ∃ w4, (wb.alloc (.cells #[.int .i32 (n1 : Int), .int .i32 (x1 : Int)] 137)).drewN nq = w4 := ⟨_, rfl⟩
                obtain ⟨P, hP⟩ : ∃ P, wb.heap.size = P := ⟨_, rfl⟩
                rw [hw4] at fwb p0 p1 kb hsb
                rw [hP] at p0 p1 hPt hsb
                rw [hw4, hP]
                clear hw4 hP q3 ct hc0 hc1
                have q3 := fwb.hq.c3
                have ct := fwb.t.cell hn1
                have zt := fwb.t.frozen n1
                have FB := hide (And.intro fwb (And.intro kb (And.intro p0 (And.intro hPt hsb))))
                clear fwb kb hPt hsb
                go_region
                have fwc := (FB.out.1.setT hy n1 (x1 : Int)).drew hy
                have kc := (FB.out.2.1.setCell (a := ⟨y.tB, n1, none⟩) (fun _ => ⟨HH.out.1.pq.2.2.1, fun e => HH.out.1.nf.2.2.1 (.inl e), fun e => HH.out.1.nf.2.2.1 (.inr e)⟩) (.int .i32 (x1 : Int))).drew
                have p0' : ((w4.setCell ⟨y.tB, n1, none⟩ (.int .i32 (x1 : Int))).drew).cell? ⟨P, 0, none⟩ = some (.int .i32 (n1 : Int)) := (Kp.set1 w4 y.tB n1 _).cell FB.out.2.2.1 FB.out.2.2.2.1.1
                have hsc : P < ((w4.setCell ⟨y.tB, n1, none⟩ (.int .i32 (x1 : Int))).drew).heap.size := World.block_lt_of_cell? _ _ p0'
                generalize (w4.setCell ⟨y.tB, n1, none⟩ (.int .i32 (x1 : Int))).drew = w5 at *
                clear q3 ct zt p0 p1
                have q4 := fwc.hq.c4
                have cy := fwc.yy.cell hn1
                have zy := fwc.yy.frozen n1
                have FC := hide (And.intro fwc (And.intro kc (And.intro p0' hsc)))
                clear fwc kc hsc
                go_wp2_with fail
                go_region
                have fwd := (FC.out.1.setY hy n1 (i : Int)).drew hy
                have kd := (FC.out.2.1.setCell (a := ⟨y.yB, n1, none⟩) (fun _ => ⟨HH.out.1.pq.2.2.2.1, fun e => HH.out.1.nf.2.2.2.1 (.inl e), fun e => HH.out.1.nf.2.2.2.1 (.inr e)⟩) (.int .i64 (i : Int))).drew
                have p0'' : ((w5.setCell ⟨y.yB, n1, none⟩ (.int .i64 (i : Int))).drew).cell? ⟨P, 0, none⟩ = some (.int .i32 (n1 : Int)) := (Kp.set1 w5 y.yB n1 _).cell FC.out.2.2.1 FB.out.2.2.2.1.2.1
                generalize (w5.setCell ⟨y.yB, n1, none⟩ (.int .i64 (i : Int))).drew = w6 at *
                clear q4 cy zy p0'
                have q5 := fwd.hq.c5
                have z5 := fwd.hq.fz 5
                obtain ⟨L, hL⟩ : ∃ L, (layF i st by' sl rl t).2.2.length = L := ⟨_, rfl⟩
                have hL30 : L ≤ 30 := by
                  have h1 := layF_len i st by' sl rl t
                  have h2 := HM0.out
                  omega
                have ho := fwd.os.at hL
                have nQ : ∀ k, setv2.ownBlock = some k → k ≠ q.Q := fun k e => (fwd.sne k e).1
                have HO := hide ho
                have q5a : (w6.alloc (.cells #[.int .i32 (n1 : Int)] 96)).cell? ⟨q.Q, 5, none⟩ = some setv2 := ((Kp.refl (fun _ => False) w6).alloc _).cell q5 id
                have FD := hide (And.intro fwd (And.intro kd (And.intro nQ hL)))
                clear fwd kd ho hL
                go_wp2_with fail
                go_region_law
                  ((refine step_app _ (by rfl) (.tmp 100) (.tmp 103) 34 96 (by rfl) Yba.underlying34 (.int .i32 0) 1 4 info96 (by rfl) (by omega) (by omega) setv2 L (i32s (layF i st by' sl rl t).2.2) (by rfl) (World.ownsRow.alloc HO.out _) w6.heap.size [.int .i32 (n1 : Int)] (heap_new_at _ _ _ (by rfl)) (by rfl) (by rfl) (by simp [Value.oneCell']) (by omega) ?_; intro g cap w7 hown hkp0 hat hlt; have q5' := hkp0.cell (show _ = some setv2 from (((Kp.refl (fun _ => False) w6).alloc _).cell q5 id)) (fun e => nQ _ e rfl); have z5' := hkp0.frozen (show _ = some setv2 from (((Kp.refl (fun _ => False) w6).alloc _).cell q5 id)) (((Kp.refl (fun _ => False) w6).alloc _).frozen q5 z5 id) (fun e => nQ _ e rfl)))
                all_goals (go_wp2; go_roundg (T - (t + 1)))
                all_goals first
                  | omega
                  | (obtain ⟨fwd, kd, nQ', hL⟩ := FD.out
                     obtain ⟨fwa, hp2, kq, hstep, hs0⟩ := FQ.out
                     have hkp : Kp (fun k => setv2.ownBlock = some k) w6 w7 := (((Kp.refl _ _).alloc _).drew).trans hkp0
                     have e : layF i st by' sl rl (t + 1) = (Plain.upd (layF i st by' sl rl t).1 n1 x1, Plain.upd (layF i st by' sl rl t).2.1 n1 i, (layF i st by' sl rl t).2.2 ++ [n1]) := by
                       rw [hstep]
                       unfold Plain.lay
                       rw [if_pos hs0]
                     have hsz : w6.heap.size ≤ g ∨ setv2.ownBlock = some g := by
                       rcases hat with h | h
                       · exact .inr h
                       · have : ((w6.alloc (.cells #[.int .i32 (n1 : Int)] 96)).drew).heap.size = w6.heap.size + 1 := by simp [World.drew]
                         exact .inl (by omega)
                     have f7 := fwd.setS hy hkp (OV.of_own (OV.snocN hL hown)) (pr1 := fun k => pr2 k ∨ (w6.heap.size ≤ k ∧ k < w7.heap.size)) (fun k h => .inl h) (fun k h => h) (by
                       intro k hk
                       have hk' : g = k := by simpa [Value.ownBlock] using hk
                       subst hk'
                       rcases hsz with h | h
                       · exact .inr ⟨h, .inr ⟨h, hlt⟩⟩
                       · exact .inl h)
                     have hs36 := kd.size
                     refine ⟨t + 1, by omega, by go_num, hide ⟨fun k => pr2 k ∨ (w6.heap.size ≤ k ∧ k < w7.heap.size), .slice (some ⟨g, 0, none⟩) (L + 1) cap, ?_, ?_, ?_⟩⟩
                     · rw [e]; exact f7
                     · rintro k (h | h)
                       · exact hp2 k h
                       · exact .inr (by omega)
                     · refine (kd.trans' hkp ?_).setCell (fun _ => ⟨HH.out.1.pq.1, fun e => HH.out.1.nf.1 (.inl e), fun e => HH.out.1.nf.1 (.inr e)⟩) _
                       intro k hk e
                       have h1 := fwd.pq.2.2.2.2 k e
                       have h2 := fwd.nf.2.2.2.2 k e
                       refine ⟨?_, fun e => h2 (.inl e), fun e => h2 (.inr e)⟩
                       rcases hp2 k h1 with h | h
                       · exact h
                       · omega)
              · have h1' : (s0 == -1) = false := by simp [h1]
                go_wp2_with fail
                go_quiet (fail)
                go_wp2
                go_roundg (T - (t + 1))
                case measure => omega
                case rel =>
                  obtain ⟨fwa, hp2, kq, hstep, hs0⟩ := FQ.out
                  have e : layF i st by' sl rl (t + 1) = layF i st by' sl rl t := by
                    rw [hstep]
                    unfold Plain.lay
                    rw [if_neg (by rw [hs0]; exact h1)]
                  refine ⟨t + 1, by omega, by go_num, hide ⟨pr2, setv2, ?_, hp2, (kq.alloc _).drewN _⟩⟩
                  rw [e]
                  exact fwa.drewN hy _
            · have hnl2 : ¬ ((t : Int) < (T : Int)) := by omega
              obtain rfl : t = T := by omega
              have hTT := HT.out.1
              have hlF : layF i st by' sl rl t = rl.foldl (Plain.lay i) (st, by', sl) := by unfold layF; rw [List.take_of_length_le (by omega)]
              obtain ⟨m, hm1, hm2, hm3, hm4, fl1⟩ := HH.out.2.1.lay hok HV.out.1 HV.out.2.1 HV.out.2.2 H2.out.1 HF.out
              rw [← hlF] at hm1 hm3 hm4 fl1
              have fwp := fw.setP hy i (v : Int)
              have c2 := fw.hq.c2
              have cp := fw.p.cell hik
              have zp := fw.p.frozen i
              generalize (layF i st by' sl rl t).1 = st1 at *
              generalize (layF i st by' sl rl t).2.1 = by1 at *
              generalize (layF i st by' sl rl t).2.2 = sl1 at *
              have kqp := kq.setCell (a := ⟨q.pB, i, none⟩) (fun _ => ⟨HH.out.1.pq.2.1, fun e => HH.out.1.nf.2.1 (.inl e), fun e => HH.out.1.nf.2.1 (.inr e)⟩) (.int .i32 (v : Int))
              have CL := hide (IH.out (fun k => sf k ∨ k = Bb) pr2 _ setv2 (fun j => if j = i then p else ix j) _ _ _ _ fwp fl1)
              have rBp : (wb.setCell ⟨q.pB, i, none⟩ (.int .i32 (v : Int))).rowIs Bb 4 i (fun j => .bool (bl j)) := kqp.rowIs (K3.out.rowIs H2.out.2.2.2.2.2.1 id) (fun h => h.2.2 rfl)
              have kwp : Kp (fun k => ¬ sf k) w (wb.setCell ⟨q.pB, i, none⟩ (.int .i32 (v : Int))) := (H2.out.2.2.2.2.2.2.trans' K3.out (fun _ _ h => h.elim)).trans' kqp (fun _ _ h => h.2.1)
              have plp := fwp.pl
              have hpq := fwp.pq
              have HX := hide (And.intro fl1 (And.intro hm1 (And.intro hm2 (And.intro hm3 (And.intro hm4 (And.intro rBp (And.intro kwp (And.intro plp (And.intro hpq (fwp.sp Bb (.inr rfl)))))))))))
              clear fw hp2 kq hlF hm1 hm2 hm3 hm4 fl1 fwp kqp rBp kwp plp hTT HQ hpq
              go_wp2_with fail
              refine CL.out.mono ?_
              rintro e w8 ⟨k8, hor⟩
              clear CL c2 cp zp
              obtain ⟨wp, hwp⟩ : ∃ wp, wb.setCell ⟨q.pB, i, none⟩ (.int .i32 (v : Int)) = wp := ⟨_, rfl⟩
              rw [hwp] at HX hor k8
              clear hwp
              have kw8 : Kp (fun k => ¬ sf k) w w8 := HX.out.2.2.2.2.2.2.1.trans' k8 (fun k _ h e => h (.inl e))
              have rB8 : w8.rowIs Bb 4 i (fun j => .bool (bl j)) := k8.rowIs HX.out.2.2.2.2.2.1 (fun h => h (.inr rfl))
              rcases hor with ⟨ix', pr8, setv8, pf8, st8, by8, sl8, rfl, hff, hix, fw8, fl8⟩ | ⟨back, bb, mm, mc, B8, pr8, setv8, pf8, by8, rfl, hmm, hmc, hcl8, hbb, hb1, hb2, hbf8, hfail, fw8, fl8, hby8⟩
              · have HR := hide (And.intro hff (And.intro hix (And.intro fw8 (And.intro fl8 kw8))))
                clear hff hix fw8 fl8 k8 kw8 rB8
                go_wp2
                go_ret2
                obtain ⟨hff, hix, fw8, fl8, kw8⟩ := HR.out
                have hxi : ix' i = p := by rw [hix i (by omega)]; show (if i = i then p else ix i) = p; rw [if_pos rfl]
                have hxj : ∀ j, j < i → ix' j = ix j := by intro j hj; rw [hix j (by omega)]; show (if j = i then p else ix j) = _; rw [if_neg (by omega)]
                refine ⟨kw8, .inl ⟨ix', pr8, setv8, pf8, st8, by8, sl8, rfl, Plain.firstFrom_step hik hff (B := bl) ?_, hxj, fw8.less (fun k e => .inl e) HW.out.cf, fl8⟩⟩
                intro z hz
                have h1 := HH.out.2.2.2.2.2 z (by omega)
                intro t' a1 a2 a3
                refine h1 t' (fun j hj hb => ?_) a2 a3
                rw [a1 j hj hb]
                unfold Plain.val
                rw [hxj j hj]
              · have hbk : ¬ (back = (q.k : Int)) := by omega
                have hbk' : (back == (q.k : Int)) = false := by simp; omega
                obtain ⟨fl1, hm1, hm2, hm3, hm4, rBp, kwp, plp, hpq, hpB⟩ := HX.out
                have hm0 := HM0.out
                have hst : (fun n => if n ∈ m then (-1 : Int) else st1 n) = st := by
                  funext n
                  by_cases e : n ∈ m
                  · rw [if_pos e, hm2 n e]
                  · rw [if_neg e]
                    by_cases e2 : st1 n = st n
                    · exact e2
                    · exact absurd (hm3 n e2) e
                have nbb : bb ≠ Bb ∧ bb ≠ y.tB ∧ bb ≠ q.Q := by
                  have h1 := plp _ hpB
                  have h2 := plp _ hpq.1
                  have h3 := plp _ hpq.2.2.1
                  omega
                obtain ⟨M, hM⟩ : ∃ M, m.length = M := ⟨_, rfl⟩
                have hlen : sl1.length = m0 + M := by rw [hm1, List.length_append, hm0, hM]
                have hN : m0 + M ≤ 20 := by have := fl1.ln; omega
                have hvi : Plain.val C (fun j => if j = i then p else ix j) i = v := by
                  unfold Plain.val
                  show (C i).getD (if i = i then p else ix i) 0 = _
                  rw [if_pos rfl]; exact HV.out.2.1
                have hvo : ∀ j, j < i → Plain.val C (fun j => if j = i then p else ix j) j = Plain.val C ix j := by
                  intro j hj
                  unfold Plain.val
                  show (C j).getD (if j = i then p else ix j) 0 = _
                  rw [if_neg (by omega)]
                have hne : sl1 ≠ [] := by
                  intro e
                  have h1 := fl1.ok.has i (by omega) (d.node v) v (by rw [hvi]; exact List.mem_cons_self)
                  have h2 := fl1.mem (d.node v) (by rw [h1]; omega)
                  rw [e] at h2
                  cases h2
                have c5 := fw8.hq.c5
                rcases fw8.os.form with ⟨_, hnil⟩ | ⟨g8, cap8, hs8, ho8⟩
                · exact absurd hnil hne
                subst hs8
                rw [hlen] at c5
                have hcg : ∀ t, t < M → w8.cell? ⟨g8, m0 + t, none⟩ = some (.int .i32 ((m.getD t 0 : Nat) : Int)) ∧ m.getD t 0 < d.nM + 2 := by
                  intro t ht
                  have h1 := ho8.cell (m0 + t) (by omega)
                  have e : sl1.getD (m0 + t) 0 = m.getD t 0 := by
                    rw [hm1, List.getD_eq_getElem?_getD, List.getElem?_append_right (by omega), List.getD_eq_getElem?_getD, hm0, Nat.add_sub_cancel_left]
                  rw [e] at h1
                  refine ⟨h1, fl1.lt _ ?_⟩
                  rw [hm1, List.mem_append, List.getD_eq_getElem?_getD, List.getElem?_eq_getElem (by omega)]
                  exact .inr (List.getElem_mem _)
                rw [hlen] at ho8 fw8
                have hcap8 : m0 + M ≤ cap8 := ho8.le_cap
                have hgt : g8 ≠ y.tB ∧ g8 ≠ q.Q := ⟨(fw8.sne g8 rfl).2.2.1, (fw8.sne g8 rfl).1⟩
                have htk : sl1.take m0 = sl := by rw [hm1, ← hm0]; exact List.take_left
                have hc5a : (m0 : Int) ≤ (m0 : Int) + (M : Int) := by omega
                have hc5b : ((m0 : Int) + (M : Int)) ≤ (cap8 : Int) := by omega
                have hc5c : (m0 : Int) ≤ (cap8 : Int) := by omega
                have HY := hide (And.intro hm4 (And.intro fw8 (And.intro fl8 (And.intro hby8 (And.intro hfail (And.intro hbf8 (And.intro hcl8 (And.intro ho8 (And.intro hcg (And.intro hst (And.intro kw8 (And.intro rB8 (And.intro hvi (And.intro hvo (And.intro hbb (And.intro hmm (And.intro hlen (And.intro hM (And.intro hgt htk)))))))))))))))))))
                clear hgt htk fw8 fl8 hby8 hfail hbf8 hcl8 ho8 hcg hst kw8 rB8 hvi hvo hbb hlen hM hm0 fl1 hm1 hm2 hm3 hm4 rBp kwp plp hpq hpB hne k8
                have hM20 : M ≤ 20 := by omega
                by_cases hcm : cap8 = m0
                all_goals
                  go_wp2_with fail
                  have HC0 := hide hcm
                  clear hcm
                  go_loopg [133] M (fun kk iv wq => ∃ t' : Nat, t' + kk = M ∧ iv = .int .i64 t' ∧ Hid (FW d b y S q C cb cc (fun k => sf k ∨ k = Bb) pr8 wq (.slice (some ⟨g8, 0, none⟩) (m0 + M) cap8) pf8 (fun n => if n ∈ m.take t' then -1 else st1 n) by8 sl1 ∧ Kp (fun k => k = y.tB) w8 wq))
                  case atStart =>
                    refine ⟨0, by omega, rfl, hide ⟨?_, Kp.refl _ _⟩⟩
                    rw [show (fun n => if n ∈ m.take 0 then (-1 : Int) else st1 n) = st1 from by funext n; simp]
                    exact HY.out.2.1
                  case round =>
                    obtain ⟨t', ht', rfl, HQ⟩ := hrel
                    obtain ⟨fw, kt⟩ := HQ.out
                    by_cases hlt3 : t' < M
                    · first
                        | (exfalso; have := HC0.out; omega)
                        | (have hlt3' : (t' : Int) < (M : Int) := by omega
                           obtain ⟨hm4, fw8, fl8, hby8, hfail, hbf8, hcl8, ho8, hcg, hst, kw8, rB8, hvi, hvo, hbb, hmm', hlen, hM, hgt, htk⟩ := HY.out
                           obtain ⟨h1, h2⟩ := hcg t' hlt3
                           have h1 := kt.cell h1 hgt.1
                           have htake : m.take (t' + 1) = m.take t' ++ [m.getD t' 0] := by
                             rw [List.take_add_one, List.getD_eq_getElem?_getD, List.getElem?_eq_getElem (by omega)]; rfl
                           obtain ⟨n3, hn3⟩ : ∃ n3, m.getD t' 0 = n3 := ⟨_, rfl⟩
                           rw [hn3] at h1 h2 htake
                           have h2' : (n3 : Int) < (d.nM : Int) + 2 := by omega
                           have q3 := fw.hq.c3
                           have ct := fw.t.cell h2
                           have zt := fw.t.frozen n3
                           have FT := hide (And.intro fw (And.intro kt htake))
                           clear hm4 fw8 fl8 hby8 hfail hbf8 hcl8 ho8 hcg hst kw8 rB8 hvi hvo hbb hmm' hlen hM hgt htk fw kt htake hn3 HQ
                           go_wp2
                           go_roundg (M - (t' + 1))
                           case measure => omega
                           case rel =>
                             obtain ⟨fw, kt, htake⟩ := FT.out
                             refine ⟨t' + 1, by omega, by go_num, hide ⟨?_, kt.setCell (fun _ => rfl) _⟩⟩
                             have := fw.setT hy n3 (-1)
                             rw [show (fun n => if n ∈ m.take (t' + 1) then (-1 : Int) else st1 n) = Plain.upd (fun n => if n ∈ m.take t' then (-1 : Int) else st1 n) n3 (-1) from by
                               funext n
                               unfold Plain.upd
                               rw [htake]
                               by_cases e : n = n3
                               · simp [e]
                               · simp [e]]
                             exact this)
                    · have hnl3 : ¬ ((t' : Int) < (M : Int)) := by omega
                      obtain ⟨hm4, fw8, fl8, hby8, hfail, hbf8, hcl8, ho8, hcg, hst, kw8, rB8, hvi, hvo, hbb, hmm', hlen, hM, hgt, htk⟩ := HY.out
                      have htM : m.take t' = m := List.take_of_length_le (by omega)
                      rw [htM, hst] at fw
                      have ho9 : Own _ 96 g8 m0 cap8 sl := htk ▸ (kt.own ho8 hgt.1).take m0 (by omega)
                      have fw9 := fw.setS hy (Kp.refl _ _) (OV.of_own ho9) (pr1 := pr8) (fun k h => h) (fun k h => .inl h) (fun k h => .inl h)
                      have k9 : Kp (fun k => k = y.tB ∨ k = q.Q) w8 (World.setCell _ ⟨q.Q, 5, none⟩ (.slice (some ⟨g8, 0, none⟩) m0 cap8)) := (kt.mono (fun _ _ e => .inl e)).setCell (fun _ => .inr rfl) _
                      have hbyy : ∀ n, st n ≠ -1 → by8 n = by_ n := by
                        intro n hn
                        obtain ⟨e1, e2⟩ := hm4 n hn
                        rw [hby8 n (by rw [e1]; exact hn), e2]
                        exact HH.out.2.2.1 n hn
                      have fl9 : FL d C i ix pf8 st by8 sl := by
                        refine HH.out.2.1.byc (fun n hn => ?_) (fun j hj => ?_)
                        · rw [hbyy n hn, HH.out.2.2.1 n hn]
                        · rw [fl8.pf j (by omega), HH.out.2.1.pf j hj, hvo j hj]
                      have kw9 := kw8.trans' k9 (by
                        rintro k _ (e | e)
                        · rw [e]; exact HW.out.nf.2.2.1
                        · rw [e]; exact HW.out.nf.1)
                      have rB9 := k9.rowIs rB8 (by
                        have h1 := HH.out.1.nf
                        rintro (e | e)
                        · exact h1.2.2.1 (.inr e.symm)
                        · exact h1.1 (.inr e.symm))
                      have hcl9 : ∀ j, j < i + 1 → World.cell? _ ⟨bb, j, none⟩ = some (.bool (B8 j)) := fun j hj => k9.cell (hcl8 j hj) (by
                        rintro (e | e)
                        · exact nbb.2.1 e
                        · exact nbb.2.2 e)
                      have q5 := fw.hq.c5
                      have z5 := fw.hq.fz 5
                      have HZ := hide (And.intro fw9 (And.intro hbyy (And.intro fl9 (And.intro kw9 (And.intro rB9 (And.intro hcl9 (And.intro hfail (And.intro hbf8 (And.intro hvi hvo)))))))))
                      have hbw : w.heap.size ≤ bb := by have := HX.out.2.2.2.2.2.2.1.size; omega
                      clear hm4 fw8 fl8 hby8 hfail hbf8 hcl8 ho8 hcg hst kw8 rB8 hvi hvo hbb hmm' hlen hM hgt htk fw kt htM ho9 fw9 k9 hbyy fl9 kw9 rB9 hcl9 HQ
                      by_cases hbi : back < (i : Int)
                      · go_wp2
                        go_ret2
                        obtain ⟨fw9, hbyy, fl9, kw9, rB9, hcl9, hfail, hbf8, hvi, hvo⟩ := HZ.out
                        refine ⟨kw9, .inr ⟨back, bb, mm, mc, B8, pr8, _, pf8, by8, rfl, by omega, hmc, fun j hj => hcl9 j (by omega), hbw, hb1, hbi, fun j hj h => hbf8 j (by omega) h, ?_, fw9.less (fun k e => .inl e) HW.out.cf, fl9, hbyy⟩⟩
                        exact Plain.fail_skip hfail hvo (hbf8 i (by omega) hbi)
                      · have him : (i : Int) ≤ (mc : Int) := by omega
                        go_wp2_with fail
                        obtain ⟨w9, hw9⟩ : ∃ w9, wr.setCell ⟨q.Q, 5, none⟩ (.slice (some ⟨g8, 0, none⟩) m0 cap8) = w9 := ⟨_, rfl⟩
                        rw [hw9] at HZ ⊢
                        clear hw9 q5 z5
                        go_loopg [162] i (fun kk iv wq => ∃ t2 : Nat, t2 + kk = i ∧ iv = .int .i64 t2 ∧ Hid (wq.rowIs Bb 4 i (fun j => .bool (if j < t2 then bl j || B8 j else bl j)) ∧ Kp (fun k => k = Bb) w9 wq))
                        case atStart =>
                          refine ⟨0, by omega, rfl, hide ⟨HZ.out.2.2.2.2.1.congr ?_, Kp.refl _ _⟩⟩
                          intro j hj
                          rw [if_neg (Nat.not_lt_zero _)]
                        case round =>
                          obtain ⟨t2, ht2, rfl, HQ⟩ := hrel
                          obtain ⟨rB, kB⟩ := HQ.out
                          by_cases hlt4 : t2 < i
                          · have hlt4' : (t2 : Int) < (i : Int) := by omega
                            have c8 := kB.cell (HZ.out.2.2.2.2.2.1 t2 (by omega)) nbb.1
                            have cB := rB.cell hlt4
                            rw [if_neg (Nat.lt_irrefl _)] at cB
                            have zB := rB.frozen t2
                            have FT := hide (And.intro rB kB)
                            obtain ⟨b1, hb1'⟩ : ∃ b1, bl t2 = b1 := ⟨_, rfl⟩
                            obtain ⟨b2, hb2'⟩ : ∃ b2, B8 t2 = b2 := ⟨_, rfl⟩
                            rw [hb1'] at cB
                            rw [hb2'] at c8
                            have HB1 := hide hb1'
                            have HB2 := hide hb2'
                            clear hb1' hb2' rB kB HQ
                            cases b1 with
                            | true =>
                              go_wp2
                              go_roundg (i - (t2 + 1))
                              case measure => omega
                              case rel =>
                                obtain ⟨rB, kB⟩ := FT.out
                                refine ⟨t2 + 1, by omega, by go_num, hide ⟨(rB.set t2 (.bool true)).congr ?_, kB.setCell (fun _ => rfl) _⟩⟩
                                intro j hj
                                show (if j = t2 then Value.bool true else Value.bool (if j < t2 then bl j || B8 j else bl j)) = Value.bool (if j < t2 + 1 then bl j || B8 j else bl j)
                                by_cases e : j = t2
                                · rw [if_pos e, if_pos (by omega), e, HB1.out]; rfl
                                · rw [if_neg e]
                                  by_cases e2 : j < t2
                                  · rw [if_pos e2, if_pos (by omega)]
                                  · rw [if_neg e2, if_neg (by omega)]
                            | false =>
                              go_wp2
                              go_roundg (i - (t2 + 1))
                              case measure => omega
                              case rel =>
                                obtain ⟨rB, kB⟩ := FT.out
                                refine ⟨t2 + 1, by omega, by go_num, hide ⟨(rB.set t2 (.bool b2)).congr ?_, kB.setCell (fun _ => rfl) _⟩⟩
                                intro j hj
                                show (if j = t2 then Value.bool b2 else Value.bool (if j < t2 then bl j || B8 j else bl j)) = Value.bool (if j < t2 + 1 then bl j || B8 j else bl j)
                                by_cases e : j = t2
                                · rw [if_pos e, if_pos (by omega), e, HB1.out, HB2.out]; rfl
                                · rw [if_neg e]
                                  by_cases e2 : j < t2
                                  · rw [if_pos e2, if_pos (by omega)]
                                  · rw [if_neg e2, if_neg (by omega)]
                          · have hnl4 : ¬ ((t2 : Int) < (i : Int)) := by omega
                            go_wp2
                            go_roundg (n0 - (p + 1))
                            case measure => omega
                            case rel =>
                              obtain ⟨rB, kB⟩ := HQ.out
                              obtain ⟨fw9, hbyy, fl9, kw9, rB9, hcl9, hfail, hbf8, hvi, hvo⟩ := HZ.out
                              refine ⟨p + 1, by omega, by go_num, hide ⟨pr8, _, pf8, by8, fun j => bl j || B8 j, fw9.blame hy (.inr rfl) HBS.out ⟨fun e => ?_, fun j hj e => ?_⟩ kB, fl9, hbyy, rB.congr ?_, kw9.trans' kB ?_, ?_⟩⟩
                              · have := HW1.out.2.2.1; omega
                              · have := HW1.out.2.2.2 j hj; omega
                              · intro j hj
                                rw [if_pos (by omega)]
                              · intro k hk e
                                rw [e] at hk
                                have := HB.out
                                omega
                              · intro z hz
                                by_cases e : z = p
                                · rw [e, HV.out.2.1]
                                  exact Plain.dead_of_fail hfail hvo hvi (fun j hj h => by show (bl j || B8 j) = true; rw [h]; simp)
                                · refine (HH.out.2.2.2.2.2 z (by omega)).mono ?_
                                  intro j2 _ h
                                  show (bl j2 || B8 j2) = true
                                  rw [h]; rfl
        · obtain ⟨j, x, hj, e1, e2, e3⟩ := HH.out.2.1.ok.from_ n1 hs1
          rw [e1] at hf
          subst hf
          obtain ⟨hperm, hrd, hcl, hncb, fw2, rB2, kp2⟩ := H2.out
          have rB3 := k3.rowIs rB2 id
          have kp3 := kp2.trans' k3 (fun _ _ h => h.elim)
          have fw3 := fw2.kp0 hy k3
          have cB := rB3.cell hj
          have zB := rB3.frozen j
          have hj' : (j : Int) < (i : Int) := by omega
          have rB4 := rB3.set j (.bool true)
          have hBb : w.heap.size = Bb := HB.out
          have hdd : Plain.Dead q.k C (rest d) i (Plain.val C ix) (fun z => if z = j then true else bl z) v := by
            refine Plain.dead_of_ruled (x := x) (y := x1) (n := n1) hik hj ?_ e3 (hperm.mem_iff.1 hm) ?_
            · show (if j = j then true else bl j) = true
              rw [if_pos rfl]
            · intro e
              apply hs2
              rw [e2, e]
          have X := hide (And.intro fw3 (And.intro rB4 (And.intro kp3 hdd)))
          clear hperm hrd hcl hncb fw2 rB2 kp2 rB3 kp3 fw3 rB4 hBb k3 hm hs1 hs2 e1 e2 e3 hdd
          go_wp2
          go_roundg (n0 - (p + 1))
          case measure => omega
          case rel =>
            obtain ⟨fw3, rB4, kp3, hdd⟩ := X.out
            refine ⟨p + 1, by omega, by go_num, hide ⟨pr', _, pf', by', fun z => if z = j then true else bl z, fw3.blame hy (.inr rfl) HBS.out ⟨fun e => ?_, fun j hj e => ?_⟩ (Kp.set1 _ _ _ _), HH.out.2.1, HH.out.2.2.1, rB4.congr ?_, kp3.setCell (fun h => ?_) _, ?_⟩⟩
            · have := HW1.out.2.2.1; omega
            · have := HW1.out.2.2.2 j hj; omega
            · intro z hz
              show (if z = j then Value.bool true else Value.bool (bl z)) = Value.bool (if z = j then true else bl z)
              split <;> rfl
            · have := HB.out
              show ¬ sf Bb
              intro e
              have := HW.out.pl _ (HW.out.sp _ e)
              omega
            · intro z hz
              by_cases e : z = p
              · rw [e, HV.out.2.1]; exact hdd
              · refine (HH.out.2.2.2.2.2 z (by omega)).mono ?_
                intro j2 _ h
                show (if j2 = j then true else bl j2) = true
                rw [h]
                split <;> rfl
      · have hnl : ¬ ((p : Int) < (n0 : Int)) := by omega
        obtain ⟨pr', setv', pf', by', bl, fw, fl, hby, rB, kp, hdead⟩ := HP.out
        have hn0 := HN0.out
        have hfail : Plain.Fail q.k C (rest d) i (Plain.val C ix) bl := by
          refine Plain.fail_of_dead hik ?_
          intro v hv
          obtain ⟨z, hz, e⟩ := List.mem_iff_getElem.1 hv
          have := hdead z (by omega)
          rw [List.getD_eq_getElem?_getD, List.getElem?_eq_getElem hz] at this
          rw [← e]
          exact this
        have HH := hide (And.intro fw (And.intro fl (And.intro hby (And.intro rB (And.intro kp hfail)))))
        clear fw fl hby rB kp hdead hfail HP hn0
        obtain ⟨wa, rfl⟩ : ∃ wa, wa = wr := ⟨_, rfl⟩
        go_wp2_with fail
        go_loopg [21] i (fun kk jv wq => ∃ (z : Int), jv = .int .i64 z ∧ z = (kk : Int) - 1 ∧ kk ≤ i ∧ wq = wa ∧ Hid (∀ j, kk ≤ j → j < i → bl j = false))
        case atStart => exact ⟨(i : Int) - 1, by go_num, rfl, Nat.le_refl _, rfl, hide (fun j h1 h2 => by omega)⟩
        case round =>
          obtain ⟨z, rfl, hz, hkk, rfl, HZ⟩ := hrel
          by_cases h0 : gk = 0
          · subst h0
            obtain rfl : z = -1 := by omega
            clear hz
            go_wp2
            go_ret2
            obtain ⟨fw, fl, hby, rB, kp, hfail⟩ := HH.out
            refine ⟨kp, .inr ⟨-1, Bb, i, i, bl, pr', setv', pf', by', rfl, Nat.le_refl _, Nat.le_refl _, fun j hj => rB.cell hj, by rw [HB.out]; exact Nat.le_refl _, by omega, by omega, ?_, hfail, fw.less (fun k e => .inl e) HW.out.cf, fl, hby⟩⟩
            intro j h1 h2
            exact HZ.out j (Nat.zero_le _) h1
          · obtain ⟨t0, ht0⟩ : ∃ t0, gk = t0 + 1 := ⟨gk - 1, by omega⟩
            obtain rfl : z = (t0 : Int) := by omega
            have hz0 : (0 : Int) ≤ (t0 : Int) := by omega
            have hti : (t0 : Int) < (i : Int) := by omega
            have htn : t0 < i := by omega
            have cB := HH.out.2.2.2.1.cell htn
            have HJ := hide ht0
            clear hz ht0 h0
            cases hbl : bl t0 with
            | true =>
              rw [hbl] at cB
              clear hbl
              go_wp2
              go_ret2
              obtain ⟨fw, fl, hby, rB, kp, hfail⟩ := HH.out
              refine ⟨kp, .inr ⟨(t0 : Int), Bb, i, i, bl, pr', setv', pf', by', rfl, Nat.le_refl _, Nat.le_refl _, fun j hj => rB.cell hj, by rw [HB.out]; exact Nat.le_refl _, by omega, by omega, ?_, hfail, fw.less (fun k e => .inl e) HW.out.cf, fl, hby⟩⟩
              have ht0 := HJ.out
              intro j h1 h2
              exact HZ.out j (by omega) h1
            | false =>
              rw [hbl] at cB
              have HBL := hide hbl
              clear hbl
              go_wp2
              have ht0 := HJ.out
              go_roundg t0
              case measure => omega
              case rel =>
                refine ⟨(t0 : Int) - 1, by go_num, rfl, by omega, rfl, hide ?_⟩
                intro j h1 h2
                by_cases e : j = t0
                · rw [e]; exact HBL.out
                · exact HZ.out j (by omega) h2
end Go.Proofs.Ybulkctjg
