import Derived.Test.YbulkctjgRuled
namespace Go.Proofs.Ybulkctjg
open Go.RowKit
set_option linter.unusedVariables false

/-- the candidates of a node -/
def cand (d : D) (n : Nat) : List Nat := if n < d.nM then (d.revs n).reverse else isort (newer d) ((d.runs n).filter d.pas)

theorem cand_len {d : D} (hok : d.Ok) {n : Nat} (hn : n < d.nM + 2) : (cand d n).length ≤ 10 := by
  unfold cand
  split
  · rw [List.length_reverse]
    have := hok.rl n (by assumption)
    omega
  · rw [isort_length]
    have := hok.ul n (by omega) hn
    have := List.length_filter_le d.pas (d.runs n)
    omega
theorem cand_lt {d : D} (hok : d.Ok) {n : Nat} (hn : n < d.nM + 2) : ∀ v, v ∈ cand d n → v < d.nV := by
  intro v hv
  unfold cand at hv
  split at hv
  · exact hok.rev n (by assumption) v (List.mem_reverse.1 hv)
  · have h1 := mem_isort _ _ _ hv
    exact (hok.rns n (by omega) hn v (List.mem_filter.1 h1).1).1

section
variable {P : Program} {ops : Array Oper} {rest : List Oper} {o : Oper} {a : Act} {Q : Exit → Act → World → Prop}
/-- append of nothing -/
theorem wpList_append_zero (w : World) (hg : o.guard = none) (s x : Operand) (t : TypeId) (hop : o.op = Op.call { callee := Callee.builtin Builtin.append, args := #[s, x], argTypes := #[t, t] })
    (e : TypeId) (z : Value) (size bytes : Nat) (h1 : P.underlying t = some (.slice e)) (hinfo : (P.info? e).map (fun i => (i.zero, i.size, i.bytes)) = some (some z, size, bytes))
    (base : Option Addr) (sLen sCap : Nat) (hle : sLen ≤ sCap) (hs : a.eval s = .slice base sLen sCap) (ao : Option Addr) (c : Nat) (hx : a.eval x = .slice ao 0 c)
    (hK : wpList P ops Q rest (a.put o.dst (.slice base sLen sCap)) w) : wpList P ops Q (o :: rest) a w := by
  obtain ⟨i, hi, _, _, _⟩ := info_parts hinfo
  refine wpList_plain hg fun K hK' => ?_
  have hrun : (Builtin.append_ #[t, t] o.type #[.slice base sLen sCap, .slice ao 0 c]).run P w = .ok (.slice base sLen sCap) w := by
    cases ao <;> cases base <;> simp [Builtin.append_, run_underlying h1, sizeOf, typeInfo, hi, Builtin.lenOf, Builtin.firstCells, loadCells, loadCellsFrom, storeCells, hle]
  unfold Oper.wp
  simp [execOp, hop, resolve, invoke, builtin, hs, hx, hrun, Result.andThen]
  exact hK' _ _ hK
end

/-- the kept candidates -/
structure CI (d : D) (y : Dy) (S : Nat) (np : Nat → Prop) (w : World) (cv : Nat → Value) : Prop where
  k : w.rowIs y.kB 33 (d.nM + 2) cv
  ca : ∀ n, n < d.nM + 2 → cv n = .slice none 0 0 ∨ ∃ cb cap, cv n = .slice (some ⟨cb, 0, none⟩) (cand d n).length cap ∧ Own w 48 cb (cand d n).length cap (cand d n) ∧ cb ∉ y.fix ∧ (S ≤ cb ∧ ¬ np cb)

def CPost (d : D) (y : Dy) (S : Nat) (np : Nat → Prop) (n : Nat) (w : World) (e : Ending) (w' : World) : Prop :=
  ∃ cb cap cv', e = .returned (.slice (some ⟨cb, 0, none⟩) (cand d n).length cap) ∧ Own w' 48 cb (cand d n).length cap (cand d n) ∧ cb ∉ y.fix ∧ (S ≤ cb ∧ ¬ np cb) ∧ CI d y S np w' cv' ∧ Kp (fun k => k = y.kB) w w'

/-- behind the store -/
theorem cand_done {d : D} {y : Dy} {S n g cap : Nat} {np : Nat → Prop} {w w1 : World} {cv : Nat → Value} (hok : d.Ok) (hy : y.Ok S) (hn : n < d.nM + 2) (hS : S ≤ w.heap.size) (hci : CI d y S np w cv) (hfx : ∀ k, k ∈ y.fix → k < w.heap.size) (hnp : ∀ k, np k → k < w.heap.size) (kp : Kp (fun k => w.heap.size ≤ k) w w1) (hg : w.heap.size ≤ g) (ho : Own w1 48 g (cand d n).length cap (cand d n)) :
    CPost d y S np n w (.returned (.slice (some ⟨g, 0, none⟩) (cand d n).length cap)) (w1.setCell ⟨y.kB, n, none⟩ (.slice (some ⟨g, 0, none⟩) (cand d n).length cap)) := by
  have m0 := mem_fix y
  have kp0 : Kp (fun _ => False) w w1 := kp.mono (fun i hi h => by omega)
  have hgk : g ≠ y.kB := by have := hfx y.kB m0.2.2.1; omega
  have ho2 := (Kp.set1 w1 y.kB n (.slice (some ⟨g, 0, none⟩) (cand d n).length cap)).own ho hgk
  have hgf : g ∉ y.fix := fun h => by have := hfx g h; omega
  have hng : ¬ np g := fun h => by have := hnp g h; omega
  refine ⟨g, cap, _, rfl, ho2, hgf, ⟨by omega, hng⟩, ⟨(kp0.rowIs hci.k id).set n _, ?_⟩, (kp0.mono (N := fun k => k = y.kB) (fun _ _ h => h.elim)).setCell (fun _ => rfl) _⟩
  intro m hm
  by_cases e : m = n
  · subst e
    rw [if_pos rfl]
    exact .inr ⟨g, cap, rfl, ho2, hgf, by omega, hng⟩
  · rw [if_neg e]
    rcases hci.ca m hm with h | ⟨cb, cp, h1, h2, h3, h4⟩
    · exact .inl h
    · refine .inr ⟨cb, cp, h1, ?_, h3, h4⟩
      exact (Kp.set1 w1 y.kB n _).own (kp0.own h2 id) (fun e => h3 (e ▸ m0.2.2.1))

theorem ints_oneCell' (xs : List Nat) : ∀ u ∈ i32s xs, u.oneCell' = true := by
  intro u hu
  obtain ⟨_, _, rfl⟩ := List.mem_map.1 hu
  rfl

set_option maxRecDepth 100000 in
set_option maxHeartbeats 4000000 in
theorem candidates_walk (d : D) (b : Bk) (y : Dy) (S n : Nat) (np : Nat → Prop) (tv : Value) (c : Int) (sv : Value) (cv : Nat → Value) (w : World) (hok : d.Ok) (hy : y.Ok S) (hn : n < d.nM + 2) (hst : Stat d b (view S w)) (hS : S ≤ w.heap.size) (hg : Gis d b y tv c sv w) (hci : CI d y S np w cv) (hfx : ∀ k, k ∈ y.fix → k < w.heap.size) (hnp : ∀ k, np k → k < w.heap.size) :
    Calls Yba.prog 19 #[.pointer (some ⟨y.G, 0, none⟩), .int .i32 n] w fun e w' => CPost d y S np n w e w' := by
  have hn' : (n : Int) < (d.nM : Int) + 2 := by omega
  have r3 := hg.c3
  have ck := hci.k.cell hn
  have HST := hide hst
  have HG := hide hg
  have HC := hide hci
  have HNP := hide hnp
  have HF := hide hfx
  clear hst hg hci hfx hnp
  rcases HC.out.ca n hn with hnil | ⟨cb, cap, h1, h2, h3, h4⟩
  · rw [hnil] at ck
    clear hnil
    have ka : Kp (fun _ => False) w (w.alloc (.cells #[] 48)) := (Kp.refl _ _).alloc _
    have hza : (w.alloc (.cells #[] 48)).heap.size = w.heap.size + 1 := by simp
    have o0 : Own (w.alloc (.cells #[] 48)) 48 w.heap.size 0 0 [] := ⟨rfl, .inr ⟨w.heap.size, 0, #[], rfl, Nat.zero_le _, heap_new _ _ _, Nat.le_refl _, by unfold maxLen; omega, rfl, rfl⟩⟩
    have st1 : Stat d b (view S (w.alloc (.cells #[] 48))) := by rw [ka.view hS (fun _ h => h.elim)]; exact HST.out
    have gs1 := ka.gis HG.out id
    have r0 := gs1.c0
    have l1 := view_cell st1.l1
    have lm := view_cell (st1.mat n hn)
    have OO := hide o0
    have ST1 := hide st1
    have GS1 := hide gs1
    have KA := hide ka
    have HZA := hide hza
    clear o0 st1 gs1 ka hza
    by_cases hm : n < d.nM
    · rw [show decide (n < d.nM) = true from decide_eq_true hm] at lm
      have l4 := view_cell ST1.out.l4
      obtain ⟨rv0, rd0⟩ := ST1.out.rev n hm
      have rv0 := view_cell rv0
      have hcd : cand d n = (d.revs n).reverse := by unfold cand; rw [if_pos hm]
      have hrl := hok.rl n hm
      have hrest : ∀ (g m cap : Nat) (w1 : World), w.heap.size ≤ g → Kp (fun k => w.heap.size ≤ k) w w1 → Own w1 48 g m cap (d.revs n) → Calls Yba.prog 34 #[.slice (some ⟨g, 0, none⟩) m cap] w1 fun e w' => e = .returned (.tuple #[]) ∧ (m = (cand d n).length ∧ Own w' 48 g (cand d n).length cap (cand d n)) ∧ Kp (fun k => w.heap.size ≤ k) w w' ∧ Gis d b y tv c sv w' ∧ w'.rowIs y.kB 33 (d.nM + 2) cv := by
        intro g m cap w1 hg hk ho
        have hl := ho.len
        refine (reverse_walk g m cap (d.revs n) w1 (by omega) ho).mono ?_
        rintro e w2 ⟨rfl, ho2, k2⟩
        have m0 := mem_fix y
        have k3 : Kp (fun k => w.heap.size ≤ k) w w2 := hk.trans' k2 (fun i hi e => by omega)
        refine ⟨rfl, ⟨?_, ?_⟩, k3, k3.gis HG.out (by have := HG.out.lt; omega), k3.rowIs HC.out.k (by have := HF.out y.kB m0.2.2.1; omega)⟩
        · rw [hcd, List.length_reverse]; omega
        · rw [hcd, List.length_reverse, hl]; exact ho2
      have HR := hide hrest
      have HCD := hide hcd
      clear hrest hcd
      by_cases h0 : d.revs n = []
      · have h0l : (d.revs n).length = 0 := by rw [h0]; rfl
        rw [h0l] at rv0
        have OO2 := hide (show Own (w.alloc (.cells #[] 48)) 48 w.heap.size 0 0 (d.revs n) by rw [h0]; exact OO.out)
        have KA2 := hide (show Kp (fun k => w.heap.size ≤ k) w (w.alloc (.cells #[] 48)) from KA.out.mono (fun _ _ h => h.elim))
        clear h0l h0 rd0 hrl
        go_enter Yba.func19, Yba.ntmps19
        go_wp2_with (at_builtin; (refine wpList_append_zero _ rfl (.tmp 34) (.tmp 44) 33 rfl 48 (.int .i32 0) 1 4 Yba.underlying33 info48 (some ⟨w.heap.size, 0, none⟩) 0 0 (Nat.le_refl _) rfl _ _ rfl ?_))
        refine (HR.out w.heap.size 0 0 _ (Nat.le_refl _) KA2.out OO2.out).mono ?_
        rintro e w2 ⟨rfl, ⟨hlen, ho2⟩, k2, g2, r2⟩
        have r3' := g2.c3
        have ck' := r2.cell hn
        have zk' := r2.frozen n
        have HH := hide (And.intro hlen (And.intro ho2 (And.intro k2 (And.intro g2 r2))))
        clear hlen ho2 k2 g2 r2
        go_wp2
        go_ret
        obtain ⟨hlen, ho2, k2, g2, r2⟩ := HH.out
        have := cand_done hok hy hn hS HC.out HF.out HNP.out k2 (Nat.le_refl _) ho2
        rw [← hlen] at this
        exact this
      · obtain ⟨m, hm0⟩ : ∃ m, (d.revs n).length = m := ⟨_, rfl⟩
        have hmpos : 0 < m := by
          rw [← hm0]
          cases hh : d.revs n with
          | nil => exact absurd hh h0
          | cons a l => simp
        obtain ⟨bb, hbb, _⟩ := rd0 0 (by omega)
        rw [hm0, hbb] at rv0
        have hcells : ∀ j u, (i32s (d.revs n))[j]? = some u → (w.alloc (.cells #[] 48)).cell? ((⟨bb, 0, none⟩ : Addr).add j) = some u := by
          intro j u hj
          have hjl : j < (d.revs n).length := by
            have := (List.getElem?_eq_some_iff.1 hj).1
            rwa [i32s_length] at this
          obtain ⟨bb', e1, e2⟩ := rd0 j hjl
          rw [hbb] at e1
          injection e1 with e1
          injection e1 with e1 _ _
          subst e1
          rw [Addr.add_lit, Nat.zero_add, view_cell e2, ← i32s_get _ _ hjl]
          exact hj
        have HCE := hide hcells
        obtain ⟨i, hi, hi0, hi1, hi2⟩ := info_parts info48
        have HI := hide (And.intro hi (And.intro hi0 (And.intro hi1 hi2)))
        have HM0 := hide hm0
        have hml : m ≤ 3 := by omega
        clear hi hi0 hi1 hi2 hcells rd0 hbb h0 hm0 hrl
        go_enter Yba.func19, Yba.ntmps19
        go_wp2_with (at_builtin; (refine wpList_append_lies _ rfl (.tmp 34) (.tmp 44) 33 rfl 0 48 i _ 1 4 Yba.underlying33 HI.out.1 HI.out.2.1 HI.out.2.2.1 HI.out.2.2.2 rfl (by omega) (.slice (some ⟨w.heap.size, 0, none⟩) 0 0) 0 [] rfl OO.out ⟨bb, 0, none⟩ m _ (i32s (d.revs n)) rfl (by rw [i32s_length, HM0.out]; omega) HCE.out (ints_oneCell' _) (by omega) (by unfold maxLen; omega) (by omega) (Nat.zero_le _) _ rfl ?_))
        intro g cap w1 hown hgrow hat hlt
        have ho1 : Own w1 48 g m cap (d.revs n) := hown
        have kg : Kp (fun k => w.heap.size ≤ k) w w1 := (KA.out.mono (N := fun k => w.heap.size ≤ k) (fun _ _ h => h.elim)).grown hgrow (fun k e _ => by
          have : w.heap.size = k := by simpa [Value.ownBlock] using e
          omega)
        have hgge : w.heap.size ≤ g := by
          rcases hat with h | h
          · have : w.heap.size = g := by simpa [Value.ownBlock] using h
            omega
          · rw [h]; have := HZA.out; omega
        have HG2 := hide (And.intro ho1 (And.intro kg hgge))
        clear ho1 kg hgge hown hgrow hat hlt
        go_wp2_with fail
        refine (HR.out g m cap _ HG2.out.2.2 HG2.out.2.1 HG2.out.1).mono ?_
        rintro e w2 ⟨rfl, ⟨hlen, ho2⟩, k2, g2, r2⟩
        have r3' := g2.c3
        have ck' := r2.cell hn
        have zk' := r2.frozen n
        have HH := hide (And.intro hlen (And.intro ho2 (And.intro k2 (And.intro g2 r2))))
        clear hlen ho2 k2 g2 r2
        go_wp2
        go_ret
        obtain ⟨hlen, ho2, k2, g2, r2⟩ := HH.out
        have := cand_done hok hy hn hS HC.out HF.out HNP.out k2 HG2.out.2.2 ho2
        rw [← hlen] at this
        exact this
    · rw [show decide (n < d.nM) = false from decide_eq_false hm] at lm
      have l5 := view_cell ST1.out.l5
      obtain ⟨rv0, rd0⟩ := ST1.out.rns n (by omega) hn
      have rv0 := view_cell rv0
      have hcd : cand d n = isort (newer d) ((d.runs n).filter d.pas) := by unfold cand; rw [if_neg hm]
      have hrl := hok.ul n (by omega) hn
      have hrn := hok.rns n (by omega) hn
      have m0 := mem_fix y
      have hGlt := HG.out.lt
      have hklt := HF.out y.kB m0.2.2.1
      have hrest : ∀ (g m cap : Nat) (w1 : World), w.heap.size ≤ g → Kp (fun k => w.heap.size ≤ k) w w1 → Own w1 48 g m cap ((d.runs n).filter d.pas) → Calls Yba.prog 35 #[.slice (some ⟨g, 0, none⟩) m cap, .func (.func 36) #[.pointer (some ⟨y.G, 0, none⟩)] #[]] w1 fun e w' => e = .returned (.tuple #[]) ∧ (m = (cand d n).length ∧ Own w' 48 g (cand d n).length cap (cand d n)) ∧ Kp (fun k => w.heap.size ≤ k) w w' ∧ Gis d b y tv c sv w' ∧ w'.rowIs y.kB 33 (d.nM + 2) cv := by
        intro g m cap w1 hg hk ho
        have hl := ho.len
        have hfl := List.length_filter_le d.pas (d.runs n)
        refine (sortFunc_walk d b S y.G g m cap ((d.runs n).filter d.pas) w1 hok (by rw [hk.view hS (fun k h => by omega)]; exact HST.out) (hk.gis HG.out (by omega)).c0 (hk.gis HG.out (by omega)).c1 (by have := hk.size; omega) (by omega) (by omega) (by omega) (fun v hv => hrn v (List.mem_filter.1 hv).1) ho).mono ?_
        rintro e w2 ⟨rfl, ho2, k2⟩
        have k3 : Kp (fun k => w.heap.size ≤ k) w w2 := hk.trans' k2 (fun i hi e => by omega)
        refine ⟨rfl, ⟨?_, ?_⟩, k3, k3.gis HG.out (by omega), k3.rowIs HC.out.k (by omega)⟩
        · rw [hcd, isort_length]; omega
        · rw [hcd, isort_length, hl]; exact ho2
      have HR := hide hrest
      have HCD := hide hcd
      have KA2 := hide (show Kp (fun k => w.heap.size ≤ k) w (w.alloc (.cells #[] 48)) from KA.out.mono (fun _ _ h => h.elim))
      clear hrest hcd
      obtain ⟨T, hT⟩ : ∃ T, (d.runs n).length = T := ⟨_, rfl⟩
      have hcase : (T = 0 ∧ d.runs n = []) ∨ ∃ bb, b.uA n = some ⟨bb, 0, none⟩ := by
        by_cases h : T = 0
        · exact .inl ⟨h, List.eq_nil_of_length_eq_zero (by omega)⟩
        · obtain ⟨bb, h1, _⟩ := rd0 0 (by omega)
          exact .inr ⟨bb, h1⟩
      rcases hcase with ⟨hT0, hnil⟩ | ⟨bb, hbb⟩
      · have h0l : (d.runs n).length = 0 := by rw [hnil]; rfl
        rw [h0l] at rv0
        have OO2 := hide (show Own (w.alloc (.cells #[] 48)) 48 w.heap.size 0 0 ((d.runs n).filter d.pas) by rw [hnil]; exact OO.out)
        clear h0l hnil rd0 hrl hrn hT hT0
        go_enter Yba.func19, Yba.ntmps19
        go_wp2_with fail
        go_loopg [5, 59] 0 (fun k v i wr => v = .slice (some ⟨w.heap.size, 0, none⟩) 0 0 ∧ i = .int .i64 0 ∧ wr = w.alloc (.cells #[] 48))
        case atStart => exact ⟨rfl, rfl, rfl⟩
        case round =>
          obtain ⟨rfl, rfl, rfl⟩ := hrel
          go_wp2_with fail
          refine (HR.out w.heap.size 0 0 _ (Nat.le_refl _) KA2.out OO2.out).mono ?_
          rintro e w2 ⟨rfl, ⟨hlen, ho2⟩, k2, g2, r2⟩
          have r3' := g2.c3
          have ck' := r2.cell hn
          have zk' := r2.frozen n
          have HH := hide (And.intro hlen (And.intro ho2 (And.intro k2 (And.intro g2 r2))))
          clear hlen ho2 k2 g2 r2
          go_wp2
          go_ret
          obtain ⟨hlen, ho2, k2, g2, r2⟩ := HH.out
          have := cand_done hok hy hn hS HC.out HF.out HNP.out k2 (Nat.le_refl _) ho2
          rw [← hlen] at this
          exact this
      · rw [hT, hbb] at rv0
        have HT := hide hT
        have HBB := hide hbb
        have hT10 : T ≤ 10 := by omega
        have HRN := hide hrn
        clear rd0 hT hbb hrl hrn
        go_enter Yba.func19, Yba.ntmps19
        go_wp2_with fail
        go_loopg [5, 59] T (fun k v i wr => ∃ (p m g cap : Nat), p + k = T ∧ m ≤ p ∧ v = .slice (some ⟨g, 0, none⟩) m cap ∧ i = .int .i64 p ∧ Hid (w.heap.size ≤ g ∧ Own wr 48 g m cap (((d.runs n).take p).filter d.pas) ∧ Kp (fun k => w.heap.size ≤ k) w wr))
        case atStart => exact ⟨0, 0, w.heap.size, 0, by omega, by omega, rfl, rfl, hide ⟨Nat.le_refl _, OO.out, KA2.out⟩⟩
        case round =>
          obtain ⟨p, m, g, cap, hp, hmp, rfl, rfl, HQ⟩ := hrel
          by_cases hlt : p < T
          · have hlt' : (p : Int) < (T : Int) := by omega
            obtain ⟨hgge, hown, hkp⟩ := HQ.out
            have hlen := HT.out
            have stq : Stat d b (view S wr) := by rw [hkp.view hS (fun k h => by omega)]; exact HST.out
            obtain ⟨bb', e1, hcell⟩ := (stq.rns n (by omega) hn).2 p (by omega)
            have hcell := view_cell hcell
            rw [HBB.out] at e1
            injection e1 with e1
            injection e1 with e1 _ _
            subst e1
            obtain ⟨v, hv⟩ : ∃ v, (d.runs n).getD p 0 = v := ⟨_, rfl⟩
            have hvm : v ∈ d.runs n := by rw [← hv, List.getD_eq_getElem?_getD, List.getElem?_eq_getElem (by omega)]; exact List.getElem_mem _
            obtain ⟨hvV, hvn⟩ := HRN.out v hvm
            rw [hv] at hcell
            have r0 := (hkp.gis HG.out (by omega)).c0
            have l3 := view_cell (stq.l3 (by omega))
            obtain ⟨rr1, _, rr3⟩ := stq.run v hvV hvn
            have rr1 := view_cell rr1
            have rr3 := view_cell rr3
            have hvV' : (v : Int) < (d.nV : Int) := by omega
            have htake : (d.runs n).take (p + 1) = (d.runs n).take p ++ [v] := by
              rw [List.take_add_one, List.getElem?_eq_getElem (by omega), ← hv, List.getD_eq_getElem?_getD, List.getElem?_eq_getElem (by omega)]; rfl
            have HV := hide htake
            have AA := hide (And.intro hgge (And.intro hown hkp))
            clear hv hvm htake hgge hown hkp stq HQ
            by_cases hpas : d.pas v = true
            · rw [hpas, if_pos rfl] at rr3
              unfold strPassed at rr3
              have HPA := hide hpas
              clear hpas
              go_wp2_with (at_builtin; (refine wpList_app _ rfl (.tmp 78) (.tmp 80) 33 48 rfl Yba.underlying33 (.int .i32 0) 1 4 info48 rfl (by omega) (by omega) (.slice (some ⟨g, 0, none⟩) m cap) m (i32s (((d.runs n).take p).filter d.pas)) rfl (World.ownsRow.alloc AA.out.2.1 _) wr.heap.size [.int .i32 (v : Int)] (heap_new_at _ _ _ rfl) rfl rfl (by simp [Value.oneCell']) (by omega) ?_))
              intro g2 cap2 w8 hown hkp0 hat hlt2
              have hlm := AA.out.2.1.len
              have ho8 := OV.snocN hlm hown
              have hsa : (wr.alloc (.cells #[.int .i32 (v : Int)] 48)).heap.size = wr.heap.size + 1 := by simp
              have hg2 : w.heap.size ≤ g2 := by
                rcases hat with h | h
                · have : g = g2 := by simpa [Value.ownBlock] using h
                  have := AA.out.1; omega
                · have := AA.out.2.2.size; omega
              have k8 : Kp (fun k => w.heap.size ≤ k) w w8 := (AA.out.2.2.alloc _).trans' hkp0 (fun i hi e => by
                have h1 : g = i := by simpa [Value.ownBlock] using e
                have := AA.out.1; omega)
              have H8 := hide (And.intro ho8 (And.intro hg2 k8))
              clear hlm ho8 hsa hg2 k8 hown hkp0 hat hlt2
              go_wp2
              go_roundg (T - (p + 1))
              case measure => omega
              case rel =>
                refine ⟨p + 1, m + 1, g2, cap2, by omega, by omega, rfl, by go_num, hide ⟨H8.out.2.1, ?_, H8.out.2.2⟩⟩
                rw [HV.out, List.filter_append]
                have e : List.filter d.pas [v] = [v] := by simp [HPA.out]
                rw [e]
                exact H8.out.1
            · have hpf : d.pas v = false := by simpa using hpas
              rw [hpf, if_neg Bool.false_ne_true] at rr3
              unfold strFailed at rr3
              have HPA := hide hpf
              clear hpas hpf
              go_wp2
              go_roundg (T - (p + 1))
              case measure => omega
              case rel =>
                refine ⟨p + 1, m, g, cap, by omega, by omega, rfl, by go_num, hide ⟨AA.out.1, ?_, AA.out.2.2⟩⟩
                rw [HV.out, List.filter_append]
                have e : List.filter d.pas [v] = [] := by simp [HPA.out]
                rw [e, List.append_nil]
                exact AA.out.2.1
          · have hnl : ¬ ((p : Int) < (T : Int)) := by omega
            obtain ⟨hgge, hown, hkp⟩ := HQ.out
            have hlen := HT.out
            rw [List.take_of_length_le (by omega)] at hown
            have AA := hide (And.intro hgge (And.intro hown hkp))
            clear hgge hown hkp HQ hlen
            go_wp2_with fail
            refine (HR.out g m cap _ AA.out.1 AA.out.2.2 AA.out.2.1).mono ?_
            rintro e w2 ⟨rfl, ⟨hlen, ho2⟩, k2, g2, r2⟩
            have r3' := g2.c3
            have ck' := r2.cell hn
            have zk' := r2.frozen n
            have HH := hide (And.intro hlen (And.intro ho2 (And.intro k2 (And.intro g2 r2))))
            clear hlen ho2 k2 g2 r2
            go_wp2
            go_ret
            obtain ⟨hlen, ho2, k2, g2, r2⟩ := HH.out
            have := cand_done hok hy hn hS HC.out HF.out HNP.out k2 AA.out.1 ho2
            rw [← hlen] at this
            exact this
  · rw [h1] at ck
    have HH := hide (And.intro h2 (And.intro h3 h4))
    clear h1 h2 h3 h4
    go_enter Yba.func19, Yba.ntmps19
    go_wp2
    go_ret
    exact ⟨cb, cap, cv, rfl, HH.out.1, HH.out.2.1, HH.out.2.2, HC.out, Kp.refl _ _⟩
end Go.Proofs.Ybulkctjg
