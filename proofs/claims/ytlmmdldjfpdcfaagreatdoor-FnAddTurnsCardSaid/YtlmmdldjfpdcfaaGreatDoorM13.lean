/-
  prio3.New: Count.
-/
import Derived.Test.YtlmmdldjfpdcfaaGreatDoorM12
namespace Go.Proofs.YtlmmdldjfpdcfaaGreatDoor
open Go.RowKit

theorem info140 : (Tryz.prog.info? 140).map (·.size) = some 205 := by kernel_rfl
theorem z140 : Tryz.zeroCells140.size = 205 ∧ Tryz.zeroCells140.all (·.oneCell') = true := ⟨by kernel_rfl, by kernel_rfl⟩
set_option maxRecDepth 20000 in
set_option maxHeartbeats 1000000 in
theorem newCount {fb out s : Nat} {v : Value} {k : Int} {w : World} (l : List Nat) (hB : IsB w v l) (hnil : ∀ m c, v = .slice none m c → c = 0) (hl : l.length ≤ 65527) (hs0 : 2 ≤ s) (hs : s ≤ 255) (hF : Flp 208 1 fb out w) :
    Calls Tryz.prog 51 #[.pointer (some ⟨fb, 0, none⟩), .int .u32 k, .int .u8 (s : Nat), v] w fun e w' =>
      (∃ cs : Array Value, e = .returned (.tuple #[.agg cs, .nilIface]) ∧ cs.size = 205 ∧ cs.all (·.oneCell') = true ∧ cs[0]? = some (.pointer (some ⟨fb, 0, none⟩)) ∧ (∃ u, cs[203]? = some (.int .u64 u)) ∧ ∃ u, cs[204]? = some (.int .u8 u)) ∧ Ext w w' No := by
  have lf := hF.lt
  have nf : ¬ fb = w.heap.size := Nat.ne_of_lt lf
  obtain ⟨a, j, c, la, lj, lc, hP⟩ := hF.par
  have HP := Lib.hid hP; clear hP
  have d1 : decide ((s : Int) < 2) = false := decide_eq_false (by omega)
  have hb0 : Big w.heap.size 140 205 (w.alloc (.cells (Tryz.zeroCells140.setIfInBounds 0 (.pointer (some ⟨fb, 0, none⟩))) 140)) := by
    have h := (Big.new (t := 140) w _ z140.1 z140.2).set 0 (v := .pointer (some ⟨fb, 0, none⟩)) rfl
    obtain ⟨cur, hb, hsz, ha⟩ := h
    rw [blk_set (blk_new _ _)] at hb
    obtain rfl := (Obj.cells.inj (Option.some.inj hb)).1
    exact ⟨_, blk_new _ _, hsz, ha⟩
  have hp0 : (w.alloc (.cells (Tryz.zeroCells140.setIfInBounds 0 (.pointer (some ⟨fb, 0, none⟩))) 140)).cell? ⟨w.heap.size, 0, none⟩ = some (.pointer (some ⟨fb, 0, none⟩)) := by
    rw [blk_cell (blk_new _ _), Array.getElem?_setIfInBounds_self_of_lt (by rw [z140.1]; decide)]
  have hN := newXof64 (k := k) (w := w.alloc (.cells (Tryz.zeroCells140.setIfInBounds 0 (.pointer (some ⟨fb, 0, none⟩))) 140)) l (by
    obtain ⟨h1, a, c, rfl, h2, h3, h4⟩ := hB
    refine ⟨h1, a, c, rfl, h2, h3, ?_⟩
    rcases h4 with h4 | ⟨b, o, h5, h6⟩
    · exact .inl h4
    · exact .inr ⟨b, o, h5, fun i hi => cell_alloc (h6 i hi) _⟩) hnil hl
  have HB0 := Lib.hid hb0; clear hb0
  have HP0 := Lib.hid hp0; clear hp0
  have HN := Lib.hid hN; clear hN
  clear hB hnil hF
  by_cases hj : 0 < j
  · have d2 : decide ((0 : Int) < (j : Int)) = true := decide_eq_true (by omega)
    have d2' : decide (0 < j) = true := decide_eq_true (by omega)
    have HJ := Lib.hid hj; clear hj
    go_enter Tryz.func51, Tryz.ntmps51
    go_wp2_with (first
      | (go_at_call 67; refine HN.out.mono ?_; rintro e w1 ⟨⟨cs, rfl, hcs, hca⟩, hx1⟩; have hB1 := HB0.out.extNo hx1; have hP1 := hx1.cellNo HP0.out; have HCS := Lib.hid hcs; clear hcs; have HCA := Lib.hid hca; clear hca; have HX1 := Lib.hid hx1; clear hx1; have HB1 := Lib.hid hB1; clear hB1)
      | ((with_reducible refine at_store 22 ?_); (with_reducible refine wpList_store_big _ rfl 138 (.tmp 22) (.tmp 20) rfl w.heap.size 1 140 205 rfl cs rfl HB1.out (by rw [HCS.out]; decide) (by rw [HCS.out]; exact info138) HCA.out ?_); intro w2 hx2 hB2 _ hk2; have hP2 : w2.cell? ⟨w.heap.size, 0, none⟩ = some (.pointer (some ⟨fb, 0, none⟩)) := (hk2 0 (.inl (by decide))).trans hP1; clear hk2; obtain ⟨u3, hu3, -⟩ := hB2.cell 203 (by decide); obtain ⟨u4, hu4, -⟩ := hB2.cell 204 (by decide); have g3 := hB2.frz 203; have g4 := hB2.frz 204; have hx02 : Ext w w2 No := (((Ext.refl w No).alloc _).transNo HX1.out).trans hx2 (fun i hi h => by subst h; exact absurd hi (Nat.lt_irrefl _)); have hm : ∀ v1 v2, (method 486 129 (.pointer (some ⟨fb, 0, none⟩)) "JointRandLength").run Tryz.prog ((w2.setCell ⟨w.heap.size, 204, none⟩ v1).setCell ⟨w.heap.size, 203, none⟩ v2) = .ok (246, params a j c out) ((w2.setCell ⟨w.heap.size, 204, none⟩ v1).setCell ⟨w.heap.size, 203, none⟩ v2) := fun v1 v2 => meth129JointRandLength (HP.out _ No ((hx02.set (.inl (Nat.le_refl _)) v1).set (.inl (Nat.le_refl _)) v2) (fun f => f)); have HB2 := Lib.hid hB2; clear hB2; clear hP1; have HX2 := Lib.hid hx02; clear hx2 hx02)
      | (go_at_call 246; refine (parJ _ _ _ _ _).mono ?_; rintro e w3 ⟨rfl, hx3⟩; have hb3 := ((HB2.out.set 204 (v := .int .u8 (s : Nat)) rfl).set 203 (v := .int .u64 (32 * (s : Int))) rfl).extNo hx3; have hx3' := ((HX2.out.set (.inl (Nat.le_refl _)) _).set (.inl (Nat.le_refl _)) _).transNo hx3; have hp3 : w3.cell? ⟨w.heap.size, 0, none⟩ = some (.pointer (some ⟨fb, 0, none⟩)) := hx3.cellNo (cell_set_ne (cell_set_ne hP2 (by decide)) (by decide)); have hq3 : w3.cell? ⟨w.heap.size, 203, none⟩ = some (.int .u64 (32 * (s : Int))) := hx3.cellNo (World.cell?_setCell_same _ _ _ (cell_set_ne hu3 (by decide))); have hr3 : w3.cell? ⟨w.heap.size, 204, none⟩ = some (.int .u8 (s : Nat)) := hx3.cellNo (cell_set_ne (World.cell?_setCell_same _ _ _ hu4) (by decide)); have g33 := hb3.frz 203; clear hx3; have HX3 := Lib.hid hx3'; clear hx3'; have HB3 := Lib.hid hb3; clear hb3)
      | ((with_reducible refine at_dst 41 ?_); (with_reducible refine wpList_load_big _ rfl 140 (.tmp 8) rfl w.heap.size 0 140 205 205 rfl (by first | exact HB3.out | exact HB3.out.set 203 rfl) (by decide) Tryz.underlying140 rfl info140 ?_); intro ds hds hda hdc; have hd0 := hdc 0 (by decide); have HD3 := Lib.hid (hdc 203 (by decide)); have HD4 := Lib.hid (hdc 204 (by decide)); have HDS := Lib.hid hds; clear hds; have HDA := Lib.hid hda; clear hda; clear hdc; have HD0 := Lib.hid hd0; clear hd0)
      | ((with_reducible refine at_store 8 ?_); (with_reducible refine wpList_store_big _ rfl 140 (.tmp 8) (.tmp 41) rfl w.heap.size 0 140 205 rfl ds rfl (by first | exact HB3.out | exact HB3.out.set 203 rfl) (by rw [HDS.out]; decide) (by rw [HDS.out]; exact info140) HDA.out ?_); intro w4 hx4 hB4 hk4 _; have h40 := hk4 0 (by rw [HDS.out]; decide); have H43 := Lib.hid (hk4 203 (by rw [HDS.out]; decide)); have H44 := Lib.hid (hk4 204 (by rw [HDS.out]; decide)); clear hk4; have HB4 := Lib.hid hB4; clear hB4; have HX4 := Lib.hid hx4; clear hx4; have H40 := Lib.hid h40; clear h40))
    refine bodyPost_big2 (fn := Tryz.f51) rfl rfl rfl HB4.out Tryz.underlying140 rfl info140 (fun es h1 h2 h3 => ⟨⟨es, rfl, h1, h2, ?_, ?_, ?_⟩, ?_⟩)
    · rw [h3 0 (by decide)]
      refine H40.out.trans (HD0.out.trans ?_)
      first
        | exact hp3
        | exact cell_set_ne hp3 (by decide)
    · first
        | exact ⟨_, (h3 203 (by decide)).trans ((H43.out).trans (HD3.out.trans hq3))⟩
        | exact ⟨_, (h3 203 (by decide)).trans ((H43.out).trans (HD3.out.trans (World.cell?_setCell_same _ _ _ hq3)))⟩
    · first
        | exact ⟨_, (h3 204 (by decide)).trans ((H44.out).trans (HD4.out.trans hr3))⟩
        | exact ⟨_, (h3 204 (by decide)).trans ((H44.out).trans (HD4.out.trans (cell_set_ne hr3 (by decide))))⟩
    · have h := HX4.out
      first
        | exact HX3.out.trans h (fun i hi h => by subst h; exact absurd hi (Nat.lt_irrefl _))
        | exact (HX3.out.set (.inl (Nat.le_refl _)) _).trans h (fun i hi h => by subst h; exact absurd hi (Nat.lt_irrefl _))
  · have d2 : decide ((0 : Int) < (j : Int)) = false := decide_eq_false (by omega)
    have d2' : decide (0 < j) = false := decide_eq_false (by omega)
    have HJ := Lib.hid hj; clear hj
    go_enter Tryz.func51, Tryz.ntmps51
    go_wp2_with (first
      | (go_at_call 67; refine HN.out.mono ?_; rintro e w1 ⟨⟨cs, rfl, hcs, hca⟩, hx1⟩; have hB1 := HB0.out.extNo hx1; have hP1 := hx1.cellNo HP0.out; have HCS := Lib.hid hcs; clear hcs; have HCA := Lib.hid hca; clear hca; have HX1 := Lib.hid hx1; clear hx1; have HB1 := Lib.hid hB1; clear hB1)
      | ((with_reducible refine at_store 22 ?_); (with_reducible refine wpList_store_big _ rfl 138 (.tmp 22) (.tmp 20) rfl w.heap.size 1 140 205 rfl cs rfl HB1.out (by rw [HCS.out]; decide) (by rw [HCS.out]; exact info138) HCA.out ?_); intro w2 hx2 hB2 _ hk2; have hP2 : w2.cell? ⟨w.heap.size, 0, none⟩ = some (.pointer (some ⟨fb, 0, none⟩)) := (hk2 0 (.inl (by decide))).trans hP1; clear hk2; obtain ⟨u3, hu3, -⟩ := hB2.cell 203 (by decide); obtain ⟨u4, hu4, -⟩ := hB2.cell 204 (by decide); have g3 := hB2.frz 203; have g4 := hB2.frz 204; have hx02 : Ext w w2 No := (((Ext.refl w No).alloc _).transNo HX1.out).trans hx2 (fun i hi h => by subst h; exact absurd hi (Nat.lt_irrefl _)); have hm : ∀ v1 v2, (method 486 129 (.pointer (some ⟨fb, 0, none⟩)) "JointRandLength").run Tryz.prog ((w2.setCell ⟨w.heap.size, 204, none⟩ v1).setCell ⟨w.heap.size, 203, none⟩ v2) = .ok (246, params a j c out) ((w2.setCell ⟨w.heap.size, 204, none⟩ v1).setCell ⟨w.heap.size, 203, none⟩ v2) := fun v1 v2 => meth129JointRandLength (HP.out _ No ((hx02.set (.inl (Nat.le_refl _)) v1).set (.inl (Nat.le_refl _)) v2) (fun f => f)); have HB2 := Lib.hid hB2; clear hB2; clear hP1; have HX2 := Lib.hid hx02; clear hx2 hx02)
      | (go_at_call 246; refine (parJ _ _ _ _ _).mono ?_; rintro e w3 ⟨rfl, hx3⟩; have hb3 := ((HB2.out.set 204 (v := .int .u8 (s : Nat)) rfl).set 203 (v := .int .u64 (32 * (s : Int))) rfl).extNo hx3; have hx3' := ((HX2.out.set (.inl (Nat.le_refl _)) _).set (.inl (Nat.le_refl _)) _).transNo hx3; have hp3 : w3.cell? ⟨w.heap.size, 0, none⟩ = some (.pointer (some ⟨fb, 0, none⟩)) := hx3.cellNo (cell_set_ne (cell_set_ne hP2 (by decide)) (by decide)); have hq3 : w3.cell? ⟨w.heap.size, 203, none⟩ = some (.int .u64 (32 * (s : Int))) := hx3.cellNo (World.cell?_setCell_same _ _ _ (cell_set_ne hu3 (by decide))); have hr3 : w3.cell? ⟨w.heap.size, 204, none⟩ = some (.int .u8 (s : Nat)) := hx3.cellNo (cell_set_ne (World.cell?_setCell_same _ _ _ hu4) (by decide)); have g33 := hb3.frz 203; clear hx3; have HX3 := Lib.hid hx3'; clear hx3'; have HB3 := Lib.hid hb3; clear hb3)
      | ((with_reducible refine at_dst 41 ?_); (with_reducible refine wpList_load_big _ rfl 140 (.tmp 8) rfl w.heap.size 0 140 205 205 rfl (by first | exact HB3.out | exact HB3.out.set 203 rfl) (by decide) Tryz.underlying140 rfl info140 ?_); intro ds hds hda hdc; have hd0 := hdc 0 (by decide); have HD3 := Lib.hid (hdc 203 (by decide)); have HD4 := Lib.hid (hdc 204 (by decide)); have HDS := Lib.hid hds; clear hds; have HDA := Lib.hid hda; clear hda; clear hdc; have HD0 := Lib.hid hd0; clear hd0)
      | ((with_reducible refine at_store 8 ?_); (with_reducible refine wpList_store_big _ rfl 140 (.tmp 8) (.tmp 41) rfl w.heap.size 0 140 205 rfl ds rfl (by first | exact HB3.out | exact HB3.out.set 203 rfl) (by rw [HDS.out]; decide) (by rw [HDS.out]; exact info140) HDA.out ?_); intro w4 hx4 hB4 hk4 _; have h40 := hk4 0 (by rw [HDS.out]; decide); have H43 := Lib.hid (hk4 203 (by rw [HDS.out]; decide)); have H44 := Lib.hid (hk4 204 (by rw [HDS.out]; decide)); clear hk4; have HB4 := Lib.hid hB4; clear hB4; have HX4 := Lib.hid hx4; clear hx4; have H40 := Lib.hid h40; clear h40))
    refine bodyPost_big2 (fn := Tryz.f51) rfl rfl rfl HB4.out Tryz.underlying140 rfl info140 (fun es h1 h2 h3 => ⟨⟨es, rfl, h1, h2, ?_, ?_, ?_⟩, ?_⟩)
    · rw [h3 0 (by decide)]
      refine H40.out.trans (HD0.out.trans ?_)
      first
        | exact hp3
        | exact cell_set_ne hp3 (by decide)
    · first
        | exact ⟨_, (h3 203 (by decide)).trans ((H43.out).trans (HD3.out.trans hq3))⟩
        | exact ⟨_, (h3 203 (by decide)).trans ((H43.out).trans (HD3.out.trans (World.cell?_setCell_same _ _ _ hq3)))⟩
    · first
        | exact ⟨_, (h3 204 (by decide)).trans ((H44.out).trans (HD4.out.trans hr3))⟩
        | exact ⟨_, (h3 204 (by decide)).trans ((H44.out).trans (HD4.out.trans (cell_set_ne hr3 (by decide))))⟩
    · have h := HX4.out
      first
        | exact HX3.out.trans h (fun i hi h => by subst h; exact absurd hi (Nat.lt_irrefl _))
        | exact (HX3.out.set (.inl (Nat.le_refl _)) _).trans h (fun i hi h => by subst h; exact absurd hi (Nat.lt_irrefl _))
end Go.Proofs.YtlmmdldjfpdcfaaGreatDoor

/-
  prio3.New: Sum.
-/
namespace Go.Proofs.YtlmmdldjfpdcfaaGreatDoor
open Go.RowKit

theorem info152 : (Tryz.prog.info? 152).map (·.size) = some 205 := by kernel_rfl
theorem z152 : Tryz.zeroCells152.size = 205 ∧ Tryz.zeroCells152.all (·.oneCell') = true := ⟨by kernel_rfl, by kernel_rfl⟩
set_option maxRecDepth 20000 in
set_option maxHeartbeats 1000000 in
theorem newSum {fb out s : Nat} {v : Value} {k : Int} {w : World} (l : List Nat) (hB : IsB w v l) (hnil : ∀ m c, v = .slice none m c → c = 0) (hl : l.length ≤ 65527) (hs0 : 2 ≤ s) (hs : s ≤ 255) (hF : Flp 215 1 fb out w) :
    Calls Tryz.prog 54 #[.pointer (some ⟨fb, 0, none⟩), .int .u32 k, .int .u8 (s : Nat), v] w fun e w' =>
      (∃ cs : Array Value, e = .returned (.tuple #[.agg cs, .nilIface]) ∧ cs.size = 205 ∧ cs.all (·.oneCell') = true ∧ cs[0]? = some (.pointer (some ⟨fb, 0, none⟩)) ∧ (∃ u, cs[203]? = some (.int .u64 u)) ∧ ∃ u, cs[204]? = some (.int .u8 u)) ∧ Ext w w' No := by
  have lf := hF.lt
  have nf : ¬ fb = w.heap.size := Nat.ne_of_lt lf
  obtain ⟨a, j, c, la, lj, lc, hP⟩ := hF.par
  have HP := Lib.hid hP; clear hP
  have d1 : decide ((s : Int) < 2) = false := decide_eq_false (by omega)
  have hb0 : Big w.heap.size 152 205 (w.alloc (.cells (Tryz.zeroCells152.setIfInBounds 0 (.pointer (some ⟨fb, 0, none⟩))) 152)) := by
    have h := (Big.new (t := 152) w _ z152.1 z152.2).set 0 (v := .pointer (some ⟨fb, 0, none⟩)) rfl
    obtain ⟨cur, hb, hsz, ha⟩ := h
    rw [blk_set (blk_new _ _)] at hb
    obtain rfl := (Obj.cells.inj (Option.some.inj hb)).1
    exact ⟨_, blk_new _ _, hsz, ha⟩
  have hp0 : (w.alloc (.cells (Tryz.zeroCells152.setIfInBounds 0 (.pointer (some ⟨fb, 0, none⟩))) 152)).cell? ⟨w.heap.size, 0, none⟩ = some (.pointer (some ⟨fb, 0, none⟩)) := by
    rw [blk_cell (blk_new _ _), Array.getElem?_setIfInBounds_self_of_lt (by rw [z152.1]; decide)]
  have hN := newXof64 (k := k) (w := w.alloc (.cells (Tryz.zeroCells152.setIfInBounds 0 (.pointer (some ⟨fb, 0, none⟩))) 152)) l (by
    obtain ⟨h1, a, c, rfl, h2, h3, h4⟩ := hB
    refine ⟨h1, a, c, rfl, h2, h3, ?_⟩
    rcases h4 with h4 | ⟨b, o, h5, h6⟩
    · exact .inl h4
    · exact .inr ⟨b, o, h5, fun i hi => cell_alloc (h6 i hi) _⟩) hnil hl
  have HB0 := Lib.hid hb0; clear hb0
  have HP0 := Lib.hid hp0; clear hp0
  have HN := Lib.hid hN; clear hN
  clear hB hnil hF
  by_cases hj : 0 < j
  · have d2 : decide ((0 : Int) < (j : Int)) = true := decide_eq_true (by omega)
    have d2' : decide (0 < j) = true := decide_eq_true (by omega)
    have HJ := Lib.hid hj; clear hj
    go_enter Tryz.func54, Tryz.ntmps54
    go_wp2_with (first
      | (go_at_call 67; refine HN.out.mono ?_; rintro e w1 ⟨⟨cs, rfl, hcs, hca⟩, hx1⟩; have hB1 := HB0.out.extNo hx1; have hP1 := hx1.cellNo HP0.out; have HCS := Lib.hid hcs; clear hcs; have HCA := Lib.hid hca; clear hca; have HX1 := Lib.hid hx1; clear hx1; have HB1 := Lib.hid hB1; clear hB1)
      | ((with_reducible refine at_store 22 ?_); (with_reducible refine wpList_store_big _ rfl 138 (.tmp 22) (.tmp 20) rfl w.heap.size 1 152 205 rfl cs rfl HB1.out (by rw [HCS.out]; decide) (by rw [HCS.out]; exact info138) HCA.out ?_); intro w2 hx2 hB2 _ hk2; have hP2 : w2.cell? ⟨w.heap.size, 0, none⟩ = some (.pointer (some ⟨fb, 0, none⟩)) := (hk2 0 (.inl (by decide))).trans hP1; clear hk2; obtain ⟨u3, hu3, -⟩ := hB2.cell 203 (by decide); obtain ⟨u4, hu4, -⟩ := hB2.cell 204 (by decide); have g3 := hB2.frz 203; have g4 := hB2.frz 204; have hx02 : Ext w w2 No := (((Ext.refl w No).alloc _).transNo HX1.out).trans hx2 (fun i hi h => by subst h; exact absurd hi (Nat.lt_irrefl _)); have hm : ∀ v1 v2, (method 486 148 (.pointer (some ⟨fb, 0, none⟩)) "JointRandLength").run Tryz.prog ((w2.setCell ⟨w.heap.size, 204, none⟩ v1).setCell ⟨w.heap.size, 203, none⟩ v2) = .ok (246, params a j c out) ((w2.setCell ⟨w.heap.size, 204, none⟩ v1).setCell ⟨w.heap.size, 203, none⟩ v2) := fun v1 v2 => meth148JointRandLength (HP.out _ No ((hx02.set (.inl (Nat.le_refl _)) v1).set (.inl (Nat.le_refl _)) v2) (fun f => f)); have HB2 := Lib.hid hB2; clear hB2; clear hP1; have HX2 := Lib.hid hx02; clear hx2 hx02)
      | (go_at_call 246; refine (parJ _ _ _ _ _).mono ?_; rintro e w3 ⟨rfl, hx3⟩; have hb3 := ((HB2.out.set 204 (v := .int .u8 (s : Nat)) rfl).set 203 (v := .int .u64 (32 * (s : Int))) rfl).extNo hx3; have hx3' := ((HX2.out.set (.inl (Nat.le_refl _)) _).set (.inl (Nat.le_refl _)) _).transNo hx3; have hp3 : w3.cell? ⟨w.heap.size, 0, none⟩ = some (.pointer (some ⟨fb, 0, none⟩)) := hx3.cellNo (cell_set_ne (cell_set_ne hP2 (by decide)) (by decide)); have hq3 : w3.cell? ⟨w.heap.size, 203, none⟩ = some (.int .u64 (32 * (s : Int))) := hx3.cellNo (World.cell?_setCell_same _ _ _ (cell_set_ne hu3 (by decide))); have hr3 : w3.cell? ⟨w.heap.size, 204, none⟩ = some (.int .u8 (s : Nat)) := hx3.cellNo (cell_set_ne (World.cell?_setCell_same _ _ _ hu4) (by decide)); have g33 := hb3.frz 203; clear hx3; have HX3 := Lib.hid hx3'; clear hx3'; have HB3 := Lib.hid hb3; clear hb3)
      | ((with_reducible refine at_dst 41 ?_); (with_reducible refine wpList_load_big _ rfl 152 (.tmp 8) rfl w.heap.size 0 152 205 205 rfl (by first | exact HB3.out | exact HB3.out.set 203 rfl) (by decide) Tryz.underlying152 rfl info152 ?_); intro ds hds hda hdc; have hd0 := hdc 0 (by decide); have HD3 := Lib.hid (hdc 203 (by decide)); have HD4 := Lib.hid (hdc 204 (by decide)); have HDS := Lib.hid hds; clear hds; have HDA := Lib.hid hda; clear hda; clear hdc; have HD0 := Lib.hid hd0; clear hd0)
      | ((with_reducible refine at_store 8 ?_); (with_reducible refine wpList_store_big _ rfl 152 (.tmp 8) (.tmp 41) rfl w.heap.size 0 152 205 rfl ds rfl (by first | exact HB3.out | exact HB3.out.set 203 rfl) (by rw [HDS.out]; decide) (by rw [HDS.out]; exact info152) HDA.out ?_); intro w4 hx4 hB4 hk4 _; have h40 := hk4 0 (by rw [HDS.out]; decide); have H43 := Lib.hid (hk4 203 (by rw [HDS.out]; decide)); have H44 := Lib.hid (hk4 204 (by rw [HDS.out]; decide)); clear hk4; have HB4 := Lib.hid hB4; clear hB4; have HX4 := Lib.hid hx4; clear hx4; have H40 := Lib.hid h40; clear h40))
    refine bodyPost_big2 (fn := Tryz.f54) rfl rfl rfl HB4.out Tryz.underlying152 rfl info152 (fun es h1 h2 h3 => ⟨⟨es, rfl, h1, h2, ?_, ?_, ?_⟩, ?_⟩)
    · rw [h3 0 (by decide)]
      refine H40.out.trans (HD0.out.trans ?_)
      first
        | exact hp3
        | exact cell_set_ne hp3 (by decide)
    · first
        | exact ⟨_, (h3 203 (by decide)).trans ((H43.out).trans (HD3.out.trans hq3))⟩
        | exact ⟨_, (h3 203 (by decide)).trans ((H43.out).trans (HD3.out.trans (World.cell?_setCell_same _ _ _ hq3)))⟩
    · first
        | exact ⟨_, (h3 204 (by decide)).trans ((H44.out).trans (HD4.out.trans hr3))⟩
        | exact ⟨_, (h3 204 (by decide)).trans ((H44.out).trans (HD4.out.trans (cell_set_ne hr3 (by decide))))⟩
    · have h := HX4.out
      first
        | exact HX3.out.trans h (fun i hi h => by subst h; exact absurd hi (Nat.lt_irrefl _))
        | exact (HX3.out.set (.inl (Nat.le_refl _)) _).trans h (fun i hi h => by subst h; exact absurd hi (Nat.lt_irrefl _))
  · have d2 : decide ((0 : Int) < (j : Int)) = false := decide_eq_false (by omega)
    have d2' : decide (0 < j) = false := decide_eq_false (by omega)
    have HJ := Lib.hid hj; clear hj
    go_enter Tryz.func54, Tryz.ntmps54
    go_wp2_with (first
      | (go_at_call 67; refine HN.out.mono ?_; rintro e w1 ⟨⟨cs, rfl, hcs, hca⟩, hx1⟩; have hB1 := HB0.out.extNo hx1; have hP1 := hx1.cellNo HP0.out; have HCS := Lib.hid hcs; clear hcs; have HCA := Lib.hid hca; clear hca; have HX1 := Lib.hid hx1; clear hx1; have HB1 := Lib.hid hB1; clear hB1)
      | ((with_reducible refine at_store 22 ?_); (with_reducible refine wpList_store_big _ rfl 138 (.tmp 22) (.tmp 20) rfl w.heap.size 1 152 205 rfl cs rfl HB1.out (by rw [HCS.out]; decide) (by rw [HCS.out]; exact info138) HCA.out ?_); intro w2 hx2 hB2 _ hk2; have hP2 : w2.cell? ⟨w.heap.size, 0, none⟩ = some (.pointer (some ⟨fb, 0, none⟩)) := (hk2 0 (.inl (by decide))).trans hP1; clear hk2; obtain ⟨u3, hu3, -⟩ := hB2.cell 203 (by decide); obtain ⟨u4, hu4, -⟩ := hB2.cell 204 (by decide); have g3 := hB2.frz 203; have g4 := hB2.frz 204; have hx02 : Ext w w2 No := (((Ext.refl w No).alloc _).transNo HX1.out).trans hx2 (fun i hi h => by subst h; exact absurd hi (Nat.lt_irrefl _)); have hm : ∀ v1 v2, (method 486 148 (.pointer (some ⟨fb, 0, none⟩)) "JointRandLength").run Tryz.prog ((w2.setCell ⟨w.heap.size, 204, none⟩ v1).setCell ⟨w.heap.size, 203, none⟩ v2) = .ok (246, params a j c out) ((w2.setCell ⟨w.heap.size, 204, none⟩ v1).setCell ⟨w.heap.size, 203, none⟩ v2) := fun v1 v2 => meth148JointRandLength (HP.out _ No ((hx02.set (.inl (Nat.le_refl _)) v1).set (.inl (Nat.le_refl _)) v2) (fun f => f)); have HB2 := Lib.hid hB2; clear hB2; clear hP1; have HX2 := Lib.hid hx02; clear hx2 hx02)
      | (go_at_call 246; refine (parJ _ _ _ _ _).mono ?_; rintro e w3 ⟨rfl, hx3⟩; have hb3 := ((HB2.out.set 204 (v := .int .u8 (s : Nat)) rfl).set 203 (v := .int .u64 (32 * (s : Int))) rfl).extNo hx3; have hx3' := ((HX2.out.set (.inl (Nat.le_refl _)) _).set (.inl (Nat.le_refl _)) _).transNo hx3; have hp3 : w3.cell? ⟨w.heap.size, 0, none⟩ = some (.pointer (some ⟨fb, 0, none⟩)) := hx3.cellNo (cell_set_ne (cell_set_ne hP2 (by decide)) (by decide)); have hq3 : w3.cell? ⟨w.heap.size, 203, none⟩ = some (.int .u64 (32 * (s : Int))) := hx3.cellNo (World.cell?_setCell_same _ _ _ (cell_set_ne hu3 (by decide))); have hr3 : w3.cell? ⟨w.heap.size, 204, none⟩ = some (.int .u8 (s : Nat)) := hx3.cellNo (cell_set_ne (World.cell?_setCell_same _ _ _ hu4) (by decide)); have g33 := hb3.frz 203; clear hx3; have HX3 := Lib.hid hx3'; clear hx3'; have HB3 := Lib.hid hb3; clear hb3)
      | ((with_reducible refine at_dst 41 ?_); (with_reducible refine wpList_load_big _ rfl 152 (.tmp 8) rfl w.heap.size 0 152 205 205 rfl (by first | exact HB3.out | exact HB3.out.set 203 rfl) (by decide) Tryz.underlying152 rfl info152 ?_); intro ds hds hda hdc; have hd0 := hdc 0 (by decide); have HD3 := Lib.hid (hdc 203 (by decide)); have HD4 := Lib.hid (hdc 204 (by decide)); have HDS := Lib.hid hds; clear hds; have HDA := Lib.hid hda; clear hda; clear hdc; have HD0 := Lib.hid hd0; clear hd0)
      | ((with_reducible refine at_store 8 ?_); (with_reducible refine wpList_store_big _ rfl 152 (.tmp 8) (.tmp 41) rfl w.heap.size 0 152 205 rfl ds rfl (by first | exact HB3.out | exact HB3.out.set 203 rfl) (by rw [HDS.out]; decide) (by rw [HDS.out]; exact info152) HDA.out ?_); intro w4 hx4 hB4 hk4 _; have h40 := hk4 0 (by rw [HDS.out]; decide); have H43 := Lib.hid (hk4 203 (by rw [HDS.out]; decide)); have H44 := Lib.hid (hk4 204 (by rw [HDS.out]; decide)); clear hk4; have HB4 := Lib.hid hB4; clear hB4; have HX4 := Lib.hid hx4; clear hx4; have H40 := Lib.hid h40; clear h40))
    refine bodyPost_big2 (fn := Tryz.f54) rfl rfl rfl HB4.out Tryz.underlying152 rfl info152 (fun es h1 h2 h3 => ⟨⟨es, rfl, h1, h2, ?_, ?_, ?_⟩, ?_⟩)
    · rw [h3 0 (by decide)]
      refine H40.out.trans (HD0.out.trans ?_)
      first
        | exact hp3
        | exact cell_set_ne hp3 (by decide)
    · first
        | exact ⟨_, (h3 203 (by decide)).trans ((H43.out).trans (HD3.out.trans hq3))⟩
        | exact ⟨_, (h3 203 (by decide)).trans ((H43.out).trans (HD3.out.trans (World.cell?_setCell_same _ _ _ hq3)))⟩
    · first
        | exact ⟨_, (h3 204 (by decide)).trans ((H44.out).trans (HD4.out.trans hr3))⟩
        | exact ⟨_, (h3 204 (by decide)).trans ((H44.out).trans (HD4.out.trans (cell_set_ne hr3 (by decide))))⟩
    · have h := HX4.out
      first
        | exact HX3.out.trans h (fun i hi h => by subst h; exact absurd hi (Nat.lt_irrefl _))
        | exact (HX3.out.set (.inl (Nat.le_refl _)) _).trans h (fun i hi h => by subst h; exact absurd hi (Nat.lt_irrefl _))
end Go.Proofs.YtlmmdldjfpdcfaaGreatDoor

/-
  prio3.New: Sv.
-/
namespace Go.Proofs.YtlmmdldjfpdcfaaGreatDoor
open Go.RowKit

theorem info166 : (Tryz.prog.info? 166).map (·.size) = some 205 := by kernel_rfl
theorem z166 : Tryz.zeroCells166.size = 205 ∧ Tryz.zeroCells166.all (·.oneCell') = true := ⟨by kernel_rfl, by kernel_rfl⟩
set_option maxRecDepth 20000 in
set_option maxHeartbeats 1000000 in
theorem newSv {fb out s : Nat} {v : Value} {k : Int} {w : World} (l : List Nat) (hB : IsB w v l) (hnil : ∀ m c, v = .slice none m c → c = 0) (hl : l.length ≤ 65527) (hs0 : 2 ≤ s) (hs : s ≤ 255) (hF : Flp 238 2 fb out w) :
    Calls Tryz.prog 60 #[.pointer (some ⟨fb, 0, none⟩), .int .u32 k, .int .u8 (s : Nat), v] w fun e w' =>
      (∃ cs : Array Value, e = .returned (.tuple #[.agg cs, .nilIface]) ∧ cs.size = 205 ∧ cs.all (·.oneCell') = true ∧ cs[0]? = some (.pointer (some ⟨fb, 0, none⟩)) ∧ (∃ u, cs[203]? = some (.int .u64 u)) ∧ ∃ u, cs[204]? = some (.int .u8 u)) ∧ Ext w w' No := by
  have lf := hF.lt
  have nf : ¬ fb = w.heap.size := Nat.ne_of_lt lf
  obtain ⟨a, j, c, la, lj, lc, hP⟩ := hF.par
  have HP := Lib.hid hP; clear hP
  have d1 : decide ((s : Int) < 2) = false := decide_eq_false (by omega)
  have hb0 : Big w.heap.size 166 205 (w.alloc (.cells (Tryz.zeroCells166.setIfInBounds 0 (.pointer (some ⟨fb, 0, none⟩))) 166)) := by
    have h := (Big.new (t := 166) w _ z166.1 z166.2).set 0 (v := .pointer (some ⟨fb, 0, none⟩)) rfl
    obtain ⟨cur, hb, hsz, ha⟩ := h
    rw [blk_set (blk_new _ _)] at hb
    obtain rfl := (Obj.cells.inj (Option.some.inj hb)).1
    exact ⟨_, blk_new _ _, hsz, ha⟩
  have hp0 : (w.alloc (.cells (Tryz.zeroCells166.setIfInBounds 0 (.pointer (some ⟨fb, 0, none⟩))) 166)).cell? ⟨w.heap.size, 0, none⟩ = some (.pointer (some ⟨fb, 0, none⟩)) := by
    rw [blk_cell (blk_new _ _), Array.getElem?_setIfInBounds_self_of_lt (by rw [z166.1]; decide)]
  have hN := newXof128 (k := k) (w := w.alloc (.cells (Tryz.zeroCells166.setIfInBounds 0 (.pointer (some ⟨fb, 0, none⟩))) 166)) l (by
    obtain ⟨h1, a, c, rfl, h2, h3, h4⟩ := hB
    refine ⟨h1, a, c, rfl, h2, h3, ?_⟩
    rcases h4 with h4 | ⟨b, o, h5, h6⟩
    · exact .inl h4
    · exact .inr ⟨b, o, h5, fun i hi => cell_alloc (h6 i hi) _⟩) hnil hl
  have HB0 := Lib.hid hb0; clear hb0
  have HP0 := Lib.hid hp0; clear hp0
  have HN := Lib.hid hN; clear hN
  clear hB hnil hF
  by_cases hj : 0 < j
  · have d2 : decide ((0 : Int) < (j : Int)) = true := decide_eq_true (by omega)
    have d2' : decide (0 < j) = true := decide_eq_true (by omega)
    have HJ := Lib.hid hj; clear hj
    go_enter Tryz.func60, Tryz.ntmps60
    go_wp2_with (first
      | (go_at_call 77; refine HN.out.mono ?_; rintro e w1 ⟨⟨cs, rfl, hcs, hca⟩, hx1⟩; have hB1 := HB0.out.extNo hx1; have hP1 := hx1.cellNo HP0.out; have HCS := Lib.hid hcs; clear hcs; have HCA := Lib.hid hca; clear hca; have HX1 := Lib.hid hx1; clear hx1; have HB1 := Lib.hid hB1; clear hB1)
      | ((with_reducible refine at_store 22 ?_); (with_reducible refine wpList_store_big _ rfl 164 (.tmp 22) (.tmp 20) rfl w.heap.size 1 166 205 rfl cs rfl HB1.out (by rw [HCS.out]; decide) (by rw [HCS.out]; exact info164) HCA.out ?_); intro w2 hx2 hB2 _ hk2; have hP2 : w2.cell? ⟨w.heap.size, 0, none⟩ = some (.pointer (some ⟨fb, 0, none⟩)) := (hk2 0 (.inl (by decide))).trans hP1; clear hk2; obtain ⟨u3, hu3, -⟩ := hB2.cell 203 (by decide); obtain ⟨u4, hu4, -⟩ := hB2.cell 204 (by decide); have g3 := hB2.frz 203; have g4 := hB2.frz 204; have hx02 : Ext w w2 No := (((Ext.refl w No).alloc _).transNo HX1.out).trans hx2 (fun i hi h => by subst h; exact absurd hi (Nat.lt_irrefl _)); have hm : ∀ v1 v2, (method 486 161 (.pointer (some ⟨fb, 0, none⟩)) "JointRandLength").run Tryz.prog ((w2.setCell ⟨w.heap.size, 204, none⟩ v1).setCell ⟨w.heap.size, 203, none⟩ v2) = .ok (246, params a j c out) ((w2.setCell ⟨w.heap.size, 204, none⟩ v1).setCell ⟨w.heap.size, 203, none⟩ v2) := fun v1 v2 => meth161JointRandLength (HP.out _ No ((hx02.set (.inl (Nat.le_refl _)) v1).set (.inl (Nat.le_refl _)) v2) (fun f => f)); have HB2 := Lib.hid hB2; clear hB2; clear hP1; have HX2 := Lib.hid hx02; clear hx2 hx02)
      | (go_at_call 246; refine (parJ _ _ _ _ _).mono ?_; rintro e w3 ⟨rfl, hx3⟩; have hb3 := ((HB2.out.set 204 (v := .int .u8 (s : Nat)) rfl).set 203 (v := .int .u64 (32 * (s : Int))) rfl).extNo hx3; have hx3' := ((HX2.out.set (.inl (Nat.le_refl _)) _).set (.inl (Nat.le_refl _)) _).transNo hx3; have hp3 : w3.cell? ⟨w.heap.size, 0, none⟩ = some (.pointer (some ⟨fb, 0, none⟩)) := hx3.cellNo (cell_set_ne (cell_set_ne hP2 (by decide)) (by decide)); have hq3 : w3.cell? ⟨w.heap.size, 203, none⟩ = some (.int .u64 (32 * (s : Int))) := hx3.cellNo (World.cell?_setCell_same _ _ _ (cell_set_ne hu3 (by decide))); have hr3 : w3.cell? ⟨w.heap.size, 204, none⟩ = some (.int .u8 (s : Nat)) := hx3.cellNo (cell_set_ne (World.cell?_setCell_same _ _ _ hu4) (by decide)); have g33 := hb3.frz 203; clear hx3; have HX3 := Lib.hid hx3'; clear hx3'; have HB3 := Lib.hid hb3; clear hb3)
      | ((with_reducible refine at_dst 41 ?_); (with_reducible refine wpList_load_big _ rfl 166 (.tmp 8) rfl w.heap.size 0 166 205 205 rfl (by first | exact HB3.out | exact HB3.out.set 203 rfl) (by decide) Tryz.underlying166 rfl info166 ?_); intro ds hds hda hdc; have hd0 := hdc 0 (by decide); have HD3 := Lib.hid (hdc 203 (by decide)); have HD4 := Lib.hid (hdc 204 (by decide)); have HDS := Lib.hid hds; clear hds; have HDA := Lib.hid hda; clear hda; clear hdc; have HD0 := Lib.hid hd0; clear hd0)
      | ((with_reducible refine at_store 8 ?_); (with_reducible refine wpList_store_big _ rfl 166 (.tmp 8) (.tmp 41) rfl w.heap.size 0 166 205 rfl ds rfl (by first | exact HB3.out | exact HB3.out.set 203 rfl) (by rw [HDS.out]; decide) (by rw [HDS.out]; exact info166) HDA.out ?_); intro w4 hx4 hB4 hk4 _; have h40 := hk4 0 (by rw [HDS.out]; decide); have H43 := Lib.hid (hk4 203 (by rw [HDS.out]; decide)); have H44 := Lib.hid (hk4 204 (by rw [HDS.out]; decide)); clear hk4; have HB4 := Lib.hid hB4; clear hB4; have HX4 := Lib.hid hx4; clear hx4; have H40 := Lib.hid h40; clear h40))
    refine bodyPost_big2 (fn := Tryz.f60) rfl rfl rfl HB4.out Tryz.underlying166 rfl info166 (fun es h1 h2 h3 => ⟨⟨es, rfl, h1, h2, ?_, ?_, ?_⟩, ?_⟩)
    · rw [h3 0 (by decide)]
      refine H40.out.trans (HD0.out.trans ?_)
      first
        | exact hp3
        | exact cell_set_ne hp3 (by decide)
    · first
        | exact ⟨_, (h3 203 (by decide)).trans ((H43.out).trans (HD3.out.trans hq3))⟩
        | exact ⟨_, (h3 203 (by decide)).trans ((H43.out).trans (HD3.out.trans (World.cell?_setCell_same _ _ _ hq3)))⟩
    · first
        | exact ⟨_, (h3 204 (by decide)).trans ((H44.out).trans (HD4.out.trans hr3))⟩
        | exact ⟨_, (h3 204 (by decide)).trans ((H44.out).trans (HD4.out.trans (cell_set_ne hr3 (by decide))))⟩
    · have h := HX4.out
      first
        | exact HX3.out.trans h (fun i hi h => by subst h; exact absurd hi (Nat.lt_irrefl _))
        | exact (HX3.out.set (.inl (Nat.le_refl _)) _).trans h (fun i hi h => by subst h; exact absurd hi (Nat.lt_irrefl _))
  · have d2 : decide ((0 : Int) < (j : Int)) = false := decide_eq_false (by omega)
    have d2' : decide (0 < j) = false := decide_eq_false (by omega)
    have HJ := Lib.hid hj; clear hj
    go_enter Tryz.func60, Tryz.ntmps60
    go_wp2_with (first
      | (go_at_call 77; refine HN.out.mono ?_; rintro e w1 ⟨⟨cs, rfl, hcs, hca⟩, hx1⟩; have hB1 := HB0.out.extNo hx1; have hP1 := hx1.cellNo HP0.out; have HCS := Lib.hid hcs; clear hcs; have HCA := Lib.hid hca; clear hca; have HX1 := Lib.hid hx1; clear hx1; have HB1 := Lib.hid hB1; clear hB1)
      | ((with_reducible refine at_store 22 ?_); (with_reducible refine wpList_store_big _ rfl 164 (.tmp 22) (.tmp 20) rfl w.heap.size 1 166 205 rfl cs rfl HB1.out (by rw [HCS.out]; decide) (by rw [HCS.out]; exact info164) HCA.out ?_); intro w2 hx2 hB2 _ hk2; have hP2 : w2.cell? ⟨w.heap.size, 0, none⟩ = some (.pointer (some ⟨fb, 0, none⟩)) := (hk2 0 (.inl (by decide))).trans hP1; clear hk2; obtain ⟨u3, hu3, -⟩ := hB2.cell 203 (by decide); obtain ⟨u4, hu4, -⟩ := hB2.cell 204 (by decide); have g3 := hB2.frz 203; have g4 := hB2.frz 204; have hx02 : Ext w w2 No := (((Ext.refl w No).alloc _).transNo HX1.out).trans hx2 (fun i hi h => by subst h; exact absurd hi (Nat.lt_irrefl _)); have hm : ∀ v1 v2, (method 486 161 (.pointer (some ⟨fb, 0, none⟩)) "JointRandLength").run Tryz.prog ((w2.setCell ⟨w.heap.size, 204, none⟩ v1).setCell ⟨w.heap.size, 203, none⟩ v2) = .ok (246, params a j c out) ((w2.setCell ⟨w.heap.size, 204, none⟩ v1).setCell ⟨w.heap.size, 203, none⟩ v2) := fun v1 v2 => meth161JointRandLength (HP.out _ No ((hx02.set (.inl (Nat.le_refl _)) v1).set (.inl (Nat.le_refl _)) v2) (fun f => f)); have HB2 := Lib.hid hB2; clear hB2; clear hP1; have HX2 := Lib.hid hx02; clear hx2 hx02)
      | (go_at_call 246; refine (parJ _ _ _ _ _).mono ?_; rintro e w3 ⟨rfl, hx3⟩; have hb3 := ((HB2.out.set 204 (v := .int .u8 (s : Nat)) rfl).set 203 (v := .int .u64 (32 * (s : Int))) rfl).extNo hx3; have hx3' := ((HX2.out.set (.inl (Nat.le_refl _)) _).set (.inl (Nat.le_refl _)) _).transNo hx3; have hp3 : w3.cell? ⟨w.heap.size, 0, none⟩ = some (.pointer (some ⟨fb, 0, none⟩)) := hx3.cellNo (cell_set_ne (cell_set_ne hP2 (by decide)) (by decide)); have hq3 : w3.cell? ⟨w.heap.size, 203, none⟩ = some (.int .u64 (32 * (s : Int))) := hx3.cellNo (World.cell?_setCell_same _ _ _ (cell_set_ne hu3 (by decide))); have hr3 : w3.cell? ⟨w.heap.size, 204, none⟩ = some (.int .u8 (s : Nat)) := hx3.cellNo (cell_set_ne (World.cell?_setCell_same _ _ _ hu4) (by decide)); have g33 := hb3.frz 203; clear hx3; have HX3 := Lib.hid hx3'; clear hx3'; have HB3 := Lib.hid hb3; clear hb3)
      | ((with_reducible refine at_dst 41 ?_); (with_reducible refine wpList_load_big _ rfl 166 (.tmp 8) rfl w.heap.size 0 166 205 205 rfl (by first | exact HB3.out | exact HB3.out.set 203 rfl) (by decide) Tryz.underlying166 rfl info166 ?_); intro ds hds hda hdc; have hd0 := hdc 0 (by decide); have HD3 := Lib.hid (hdc 203 (by decide)); have HD4 := Lib.hid (hdc 204 (by decide)); have HDS := Lib.hid hds; clear hds; have HDA := Lib.hid hda; clear hda; clear hdc; have HD0 := Lib.hid hd0; clear hd0)
      | ((with_reducible refine at_store 8 ?_); (with_reducible refine wpList_store_big _ rfl 166 (.tmp 8) (.tmp 41) rfl w.heap.size 0 166 205 rfl ds rfl (by first | exact HB3.out | exact HB3.out.set 203 rfl) (by rw [HDS.out]; decide) (by rw [HDS.out]; exact info166) HDA.out ?_); intro w4 hx4 hB4 hk4 _; have h40 := hk4 0 (by rw [HDS.out]; decide); have H43 := Lib.hid (hk4 203 (by rw [HDS.out]; decide)); have H44 := Lib.hid (hk4 204 (by rw [HDS.out]; decide)); clear hk4; have HB4 := Lib.hid hB4; clear hB4; have HX4 := Lib.hid hx4; clear hx4; have H40 := Lib.hid h40; clear h40))
    refine bodyPost_big2 (fn := Tryz.f60) rfl rfl rfl HB4.out Tryz.underlying166 rfl info166 (fun es h1 h2 h3 => ⟨⟨es, rfl, h1, h2, ?_, ?_, ?_⟩, ?_⟩)
    · rw [h3 0 (by decide)]
      refine H40.out.trans (HD0.out.trans ?_)
      first
        | exact hp3
        | exact cell_set_ne hp3 (by decide)
    · first
        | exact ⟨_, (h3 203 (by decide)).trans ((H43.out).trans (HD3.out.trans hq3))⟩
        | exact ⟨_, (h3 203 (by decide)).trans ((H43.out).trans (HD3.out.trans (World.cell?_setCell_same _ _ _ hq3)))⟩
    · first
        | exact ⟨_, (h3 204 (by decide)).trans ((H44.out).trans (HD4.out.trans hr3))⟩
        | exact ⟨_, (h3 204 (by decide)).trans ((H44.out).trans (HD4.out.trans (cell_set_ne hr3 (by decide))))⟩
    · have h := HX4.out
      first
        | exact HX3.out.trans h (fun i hi h => by subst h; exact absurd hi (Nat.lt_irrefl _))
        | exact (HX3.out.set (.inl (Nat.le_refl _)) _).trans h (fun i hi h => by subst h; exact absurd hi (Nat.lt_irrefl _))
end Go.Proofs.YtlmmdldjfpdcfaaGreatDoor

/-
  prio3.New: Hist.
-/
namespace Go.Proofs.YtlmmdldjfpdcfaaGreatDoor
open Go.RowKit

theorem info175 : (Tryz.prog.info? 175).map (·.size) = some 205 := by kernel_rfl
theorem z175 : Tryz.zeroCells175.size = 205 ∧ Tryz.zeroCells175.all (·.oneCell') = true := ⟨by kernel_rfl, by kernel_rfl⟩
set_option maxRecDepth 20000 in
set_option maxHeartbeats 1000000 in
theorem newHist {fb out s : Nat} {v : Value} {k : Int} {w : World} (l : List Nat) (hB : IsB w v l) (hnil : ∀ m c, v = .slice none m c → c = 0) (hl : l.length ≤ 65527) (hs0 : 2 ≤ s) (hs : s ≤ 255) (hF : Flp 242 2 fb out w) :
    Calls Tryz.prog 61 #[.pointer (some ⟨fb, 0, none⟩), .int .u32 k, .int .u8 (s : Nat), v] w fun e w' =>
      (∃ cs : Array Value, e = .returned (.tuple #[.agg cs, .nilIface]) ∧ cs.size = 205 ∧ cs.all (·.oneCell') = true ∧ cs[0]? = some (.pointer (some ⟨fb, 0, none⟩)) ∧ (∃ u, cs[203]? = some (.int .u64 u)) ∧ ∃ u, cs[204]? = some (.int .u8 u)) ∧ Ext w w' No := by
  have lf := hF.lt
  have nf : ¬ fb = w.heap.size := Nat.ne_of_lt lf
  obtain ⟨a, j, c, la, lj, lc, hP⟩ := hF.par
  have HP := Lib.hid hP; clear hP
  have d1 : decide ((s : Int) < 2) = false := decide_eq_false (by omega)
  have hb0 : Big w.heap.size 175 205 (w.alloc (.cells (Tryz.zeroCells175.setIfInBounds 0 (.pointer (some ⟨fb, 0, none⟩))) 175)) := by
    have h := (Big.new (t := 175) w _ z175.1 z175.2).set 0 (v := .pointer (some ⟨fb, 0, none⟩)) rfl
    obtain ⟨cur, hb, hsz, ha⟩ := h
    rw [blk_set (blk_new _ _)] at hb
    obtain rfl := (Obj.cells.inj (Option.some.inj hb)).1
    exact ⟨_, blk_new _ _, hsz, ha⟩
  have hp0 : (w.alloc (.cells (Tryz.zeroCells175.setIfInBounds 0 (.pointer (some ⟨fb, 0, none⟩))) 175)).cell? ⟨w.heap.size, 0, none⟩ = some (.pointer (some ⟨fb, 0, none⟩)) := by
    rw [blk_cell (blk_new _ _), Array.getElem?_setIfInBounds_self_of_lt (by rw [z175.1]; decide)]
  have hN := newXof128 (k := k) (w := w.alloc (.cells (Tryz.zeroCells175.setIfInBounds 0 (.pointer (some ⟨fb, 0, none⟩))) 175)) l (by
    obtain ⟨h1, a, c, rfl, h2, h3, h4⟩ := hB
    refine ⟨h1, a, c, rfl, h2, h3, ?_⟩
    rcases h4 with h4 | ⟨b, o, h5, h6⟩
    · exact .inl h4
    · exact .inr ⟨b, o, h5, fun i hi => cell_alloc (h6 i hi) _⟩) hnil hl
  have HB0 := Lib.hid hb0; clear hb0
  have HP0 := Lib.hid hp0; clear hp0
  have HN := Lib.hid hN; clear hN
  clear hB hnil hF
  by_cases hj : 0 < j
  · have d2 : decide ((0 : Int) < (j : Int)) = true := decide_eq_true (by omega)
    have d2' : decide (0 < j) = true := decide_eq_true (by omega)
    have HJ := Lib.hid hj; clear hj
    go_enter Tryz.func61, Tryz.ntmps61
    go_wp2_with (first
      | (go_at_call 77; refine HN.out.mono ?_; rintro e w1 ⟨⟨cs, rfl, hcs, hca⟩, hx1⟩; have hB1 := HB0.out.extNo hx1; have hP1 := hx1.cellNo HP0.out; have HCS := Lib.hid hcs; clear hcs; have HCA := Lib.hid hca; clear hca; have HX1 := Lib.hid hx1; clear hx1; have HB1 := Lib.hid hB1; clear hB1)
      | ((with_reducible refine at_store 22 ?_); (with_reducible refine wpList_store_big _ rfl 164 (.tmp 22) (.tmp 20) rfl w.heap.size 1 175 205 rfl cs rfl HB1.out (by rw [HCS.out]; decide) (by rw [HCS.out]; exact info164) HCA.out ?_); intro w2 hx2 hB2 _ hk2; have hP2 : w2.cell? ⟨w.heap.size, 0, none⟩ = some (.pointer (some ⟨fb, 0, none⟩)) := (hk2 0 (.inl (by decide))).trans hP1; clear hk2; obtain ⟨u3, hu3, -⟩ := hB2.cell 203 (by decide); obtain ⟨u4, hu4, -⟩ := hB2.cell 204 (by decide); have g3 := hB2.frz 203; have g4 := hB2.frz 204; have hx02 : Ext w w2 No := (((Ext.refl w No).alloc _).transNo HX1.out).trans hx2 (fun i hi h => by subst h; exact absurd hi (Nat.lt_irrefl _)); have hm : ∀ v1 v2, (method 486 173 (.pointer (some ⟨fb, 0, none⟩)) "JointRandLength").run Tryz.prog ((w2.setCell ⟨w.heap.size, 204, none⟩ v1).setCell ⟨w.heap.size, 203, none⟩ v2) = .ok (246, params a j c out) ((w2.setCell ⟨w.heap.size, 204, none⟩ v1).setCell ⟨w.heap.size, 203, none⟩ v2) := fun v1 v2 => meth173JointRandLength (HP.out _ No ((hx02.set (.inl (Nat.le_refl _)) v1).set (.inl (Nat.le_refl _)) v2) (fun f => f)); have HB2 := Lib.hid hB2; clear hB2; clear hP1; have HX2 := Lib.hid hx02; clear hx2 hx02)
      | (go_at_call 246; refine (parJ _ _ _ _ _).mono ?_; rintro e w3 ⟨rfl, hx3⟩; have hb3 := ((HB2.out.set 204 (v := .int .u8 (s : Nat)) rfl).set 203 (v := .int .u64 (32 * (s : Int))) rfl).extNo hx3; have hx3' := ((HX2.out.set (.inl (Nat.le_refl _)) _).set (.inl (Nat.le_refl _)) _).transNo hx3; have hp3 : w3.cell? ⟨w.heap.size, 0, none⟩ = some (.pointer (some ⟨fb, 0, none⟩)) := hx3.cellNo (cell_set_ne (cell_set_ne hP2 (by decide)) (by decide)); have hq3 : w3.cell? ⟨w.heap.size, 203, none⟩ = some (.int .u64 (32 * (s : Int))) := hx3.cellNo (World.cell?_setCell_same _ _ _ (cell_set_ne hu3 (by decide))); have hr3 : w3.cell? ⟨w.heap.size, 204, none⟩ = some (.int .u8 (s : Nat)) := hx3.cellNo (cell_set_ne (World.cell?_setCell_same _ _ _ hu4) (by decide)); have g33 := hb3.frz 203; clear hx3; have HX3 := Lib.hid hx3'; clear hx3'; have HB3 := Lib.hid hb3; clear hb3)
      | ((with_reducible refine at_dst 41 ?_); (with_reducible refine wpList_load_big _ rfl 175 (.tmp 8) rfl w.heap.size 0 175 205 205 rfl (by first | exact HB3.out | exact HB3.out.set 203 rfl) (by decide) Tryz.underlying175 rfl info175 ?_); intro ds hds hda hdc; have hd0 := hdc 0 (by decide); have HD3 := Lib.hid (hdc 203 (by decide)); have HD4 := Lib.hid (hdc 204 (by decide)); have HDS := Lib.hid hds; clear hds; have HDA := Lib.hid hda; clear hda; clear hdc; have HD0 := Lib.hid hd0; clear hd0)
      | ((with_reducible refine at_store 8 ?_); (with_reducible refine wpList_store_big _ rfl 175 (.tmp 8) (.tmp 41) rfl w.heap.size 0 175 205 rfl ds rfl (by first | exact HB3.out | exact HB3.out.set 203 rfl) (by rw [HDS.out]; decide) (by rw [HDS.out]; exact info175) HDA.out ?_); intro w4 hx4 hB4 hk4 _; have h40 := hk4 0 (by rw [HDS.out]; decide); have H43 := Lib.hid (hk4 203 (by rw [HDS.out]; decide)); have H44 := Lib.hid (hk4 204 (by rw [HDS.out]; decide)); clear hk4; have HB4 := Lib.hid hB4; clear hB4; have HX4 := Lib.hid hx4; clear hx4; have H40 := Lib.hid h40; clear h40))
    refine bodyPost_big2 (fn := Tryz.f61) rfl rfl rfl HB4.out Tryz.underlying175 rfl info175 (fun es h1 h2 h3 => ⟨⟨es, rfl, h1, h2, ?_, ?_, ?_⟩, ?_⟩)
    · rw [h3 0 (by decide)]
      refine H40.out.trans (HD0.out.trans ?_)
      first
        | exact hp3
        | exact cell_set_ne hp3 (by decide)
    · first
        | exact ⟨_, (h3 203 (by decide)).trans ((H43.out).trans (HD3.out.trans hq3))⟩
        | exact ⟨_, (h3 203 (by decide)).trans ((H43.out).trans (HD3.out.trans (World.cell?_setCell_same _ _ _ hq3)))⟩
    · first
        | exact ⟨_, (h3 204 (by decide)).trans ((H44.out).trans (HD4.out.trans hr3))⟩
        | exact ⟨_, (h3 204 (by decide)).trans ((H44.out).trans (HD4.out.trans (cell_set_ne hr3 (by decide))))⟩
    · have h := HX4.out
      first
        | exact HX3.out.trans h (fun i hi h => by subst h; exact absurd hi (Nat.lt_irrefl _))
        | exact (HX3.out.set (.inl (Nat.le_refl _)) _).trans h (fun i hi h => by subst h; exact absurd hi (Nat.lt_irrefl _))
  · have d2 : decide ((0 : Int) < (j : Int)) = false := decide_eq_false (by omega)
    have d2' : decide (0 < j) = false := decide_eq_false (by omega)
    have HJ := Lib.hid hj; clear hj
    go_enter Tryz.func61, Tryz.ntmps61
    go_wp2_with (first
      | (go_at_call 77; refine HN.out.mono ?_; rintro e w1 ⟨⟨cs, rfl, hcs, hca⟩, hx1⟩; have hB1 := HB0.out.extNo hx1; have hP1 := hx1.cellNo HP0.out; have HCS := Lib.hid hcs; clear hcs; have HCA := Lib.hid hca; clear hca; have HX1 := Lib.hid hx1; clear hx1; have HB1 := Lib.hid hB1; clear hB1)
      | ((with_reducible refine at_store 22 ?_); (with_reducible refine wpList_store_big _ rfl 164 (.tmp 22) (.tmp 20) rfl w.heap.size 1 175 205 rfl cs rfl HB1.out (by rw [HCS.out]; decide) (by rw [HCS.out]; exact info164) HCA.out ?_); intro w2 hx2 hB2 _ hk2; have hP2 : w2.cell? ⟨w.heap.size, 0, none⟩ = some (.pointer (some ⟨fb, 0, none⟩)) := (hk2 0 (.inl (by decide))).trans hP1; clear hk2; obtain ⟨u3, hu3, -⟩ := hB2.cell 203 (by decide); obtain ⟨u4, hu4, -⟩ := hB2.cell 204 (by decide); have g3 := hB2.frz 203; have g4 := hB2.frz 204; have hx02 : Ext w w2 No := (((Ext.refl w No).alloc _).transNo HX1.out).trans hx2 (fun i hi h => by subst h; exact absurd hi (Nat.lt_irrefl _)); have hm : ∀ v1 v2, (method 486 173 (.pointer (some ⟨fb, 0, none⟩)) "JointRandLength").run Tryz.prog ((w2.setCell ⟨w.heap.size, 204, none⟩ v1).setCell ⟨w.heap.size, 203, none⟩ v2) = .ok (246, params a j c out) ((w2.setCell ⟨w.heap.size, 204, none⟩ v1).setCell ⟨w.heap.size, 203, none⟩ v2) := fun v1 v2 => meth173JointRandLength (HP.out _ No ((hx02.set (.inl (Nat.le_refl _)) v1).set (.inl (Nat.le_refl _)) v2) (fun f => f)); have HB2 := Lib.hid hB2; clear hB2; clear hP1; have HX2 := Lib.hid hx02; clear hx2 hx02)
      | (go_at_call 246; refine (parJ _ _ _ _ _).mono ?_; rintro e w3 ⟨rfl, hx3⟩; have hb3 := ((HB2.out.set 204 (v := .int .u8 (s : Nat)) rfl).set 203 (v := .int .u64 (32 * (s : Int))) rfl).extNo hx3; have hx3' := ((HX2.out.set (.inl (Nat.le_refl _)) _).set (.inl (Nat.le_refl _)) _).transNo hx3; have hp3 : w3.cell? ⟨w.heap.size, 0, none⟩ = some (.pointer (some ⟨fb, 0, none⟩)) := hx3.cellNo (cell_set_ne (cell_set_ne hP2 (by decide)) (by decide)); have hq3 : w3.cell? ⟨w.heap.size, 203, none⟩ = some (.int .u64 (32 * (s : Int))) := hx3.cellNo (World.cell?_setCell_same _ _ _ (cell_set_ne hu3 (by decide))); have hr3 : w3.cell? ⟨w.heap.size, 204, none⟩ = some (.int .u8 (s : Nat)) := hx3.cellNo (cell_set_ne (World.cell?_setCell_same _ _ _ hu4) (by decide)); have g33 := hb3.frz 203; clear hx3; have HX3 := Lib.hid hx3'; clear hx3'; have HB3 := Lib.hid hb3; clear hb3)
      | ((with_reducible refine at_dst 41 ?_); (with_reducible refine wpList_load_big _ rfl 175 (.tmp 8) rfl w.heap.size 0 175 205 205 rfl (by first | exact HB3.out | exact HB3.out.set 203 rfl) (by decide) Tryz.underlying175 rfl info175 ?_); intro ds hds hda hdc; have hd0 := hdc 0 (by decide); have HD3 := Lib.hid (hdc 203 (by decide)); have HD4 := Lib.hid (hdc 204 (by decide)); have HDS := Lib.hid hds; clear hds; have HDA := Lib.hid hda; clear hda; clear hdc; have HD0 := Lib.hid hd0; clear hd0)
      | ((with_reducible refine at_store 8 ?_); (with_reducible refine wpList_store_big _ rfl 175 (.tmp 8) (.tmp 41) rfl w.heap.size 0 175 205 rfl ds rfl (by first | exact HB3.out | exact HB3.out.set 203 rfl) (by rw [HDS.out]; decide) (by rw [HDS.out]; exact info175) HDA.out ?_); intro w4 hx4 hB4 hk4 _; have h40 := hk4 0 (by rw [HDS.out]; decide); have H43 := Lib.hid (hk4 203 (by rw [HDS.out]; decide)); have H44 := Lib.hid (hk4 204 (by rw [HDS.out]; decide)); clear hk4; have HB4 := Lib.hid hB4; clear hB4; have HX4 := Lib.hid hx4; clear hx4; have H40 := Lib.hid h40; clear h40))
    refine bodyPost_big2 (fn := Tryz.f61) rfl rfl rfl HB4.out Tryz.underlying175 rfl info175 (fun es h1 h2 h3 => ⟨⟨es, rfl, h1, h2, ?_, ?_, ?_⟩, ?_⟩)
    · rw [h3 0 (by decide)]
      refine H40.out.trans (HD0.out.trans ?_)
      first
        | exact hp3
        | exact cell_set_ne hp3 (by decide)
    · first
        | exact ⟨_, (h3 203 (by decide)).trans ((H43.out).trans (HD3.out.trans hq3))⟩
        | exact ⟨_, (h3 203 (by decide)).trans ((H43.out).trans (HD3.out.trans (World.cell?_setCell_same _ _ _ hq3)))⟩
    · first
        | exact ⟨_, (h3 204 (by decide)).trans ((H44.out).trans (HD4.out.trans hr3))⟩
        | exact ⟨_, (h3 204 (by decide)).trans ((H44.out).trans (HD4.out.trans (cell_set_ne hr3 (by decide))))⟩
    · have h := HX4.out
      first
        | exact HX3.out.trans h (fun i hi h => by subst h; exact absurd hi (Nat.lt_irrefl _))
        | exact (HX3.out.set (.inl (Nat.le_refl _)) _).trans h (fun i hi h => by subst h; exact absurd hi (Nat.lt_irrefl _))
end Go.Proofs.YtlmmdldjfpdcfaaGreatDoor
