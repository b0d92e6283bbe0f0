/-
  prio3.New: Mhcv.
-/
import Derived.Test.YtlmmdldjfpdcfaaGreatDoorM13
namespace Go.Proofs.YtlmmdldjfpdcfaaGreatDoor
open Go.RowKit

theorem info185 : (Tryz.prog.info? 185).map (·.size) = some 205 := by kernel_rfl
theorem z185 : Tryz.zeroCells185.size = 205 ∧ Tryz.zeroCells185.all (·.oneCell') = true := ⟨by kernel_rfl, by kernel_rfl⟩
set_option maxRecDepth 20000 in
set_option maxHeartbeats 1000000 in
theorem newMhcv {fb out s : Nat} {v : Value} {k : Int} {w : World} (l : List Nat) (hB : IsB w v l) (hnil : ∀ m c, v = .slice none m c → c = 0) (hl : l.length ≤ 65527) (hs0 : 2 ≤ s) (hs : s ≤ 255) (hF : Flp 246 2 fb out w) :
    Calls Tryz.prog 64 #[.pointer (some ⟨fb, 0, none⟩), .int .u32 k, .int .u8 (s : Nat), v] w fun e w' =>
      (∃ cs : Array Value, e = .returned (.tuple #[.agg cs, .nilIface]) ∧ cs.size = 205 ∧ cs.all (·.oneCell') = true ∧ cs[0]? = some (.pointer (some ⟨fb, 0, none⟩)) ∧ (∃ u, cs[203]? = some (.int .u64 u)) ∧ ∃ u, cs[204]? = some (.int .u8 u)) ∧ Ext w w' No := by
  have lf := hF.lt
  have nf : ¬ fb = w.heap.size := Nat.ne_of_lt lf
  obtain ⟨a, j, c, la, lj, lc, hP⟩ := hF.par
  have HP := Lib.hid hP; clear hP
  have d1 : decide ((s : Int) < 2) = false := decide_eq_false (by omega)
  have hb0 : Big w.heap.size 185 205 (w.alloc (.cells (Tryz.zeroCells185.setIfInBounds 0 (.pointer (some ⟨fb, 0, none⟩))) 185)) := by
    have h := (Big.new (t := 185) w _ z185.1 z185.2).set 0 (v := .pointer (some ⟨fb, 0, none⟩)) rfl
    obtain ⟨cur, hb, hsz, ha⟩ := h
    rw [blk_set (blk_new _ _)] at hb
    obtain rfl := (Obj.cells.inj (Option.some.inj hb)).1
    exact ⟨_, blk_new _ _, hsz, ha⟩
  have hp0 : (w.alloc (.cells (Tryz.zeroCells185.setIfInBounds 0 (.pointer (some ⟨fb, 0, none⟩))) 185)).cell? ⟨w.heap.size, 0, none⟩ = some (.pointer (some ⟨fb, 0, none⟩)) := by
    rw [blk_cell (blk_new _ _), Array.getElem?_setIfInBounds_self_of_lt (by rw [z185.1]; decide)]
  have hN := newXof128 (k := k) (w := w.alloc (.cells (Tryz.zeroCells185.setIfInBounds 0 (.pointer (some ⟨fb, 0, none⟩))) 185)) l (by
    obtain ⟨h1, a, c, rfl, h2, h3, h4⟩ := hB
    refine ⟨h1, a, c, rfl, h2, h3, ?_⟩
    rcases h4 with h4 | ⟨b, o, h5, h6⟩
    · exact .inl h4
    · exact .inr ⟨b, o, h5, fun i hi => cell_alloc (h6 i hi) _⟩) hnil hl
  have HB0 := Lib.hid hb0; clear hb0
  have HP0 := Lib.hid hp0; clear hp0
  have HN := Lib.hid hN; clear hN
  clear hB hnil hF
  by_cases hj : 0 < j
  · have d2 : decide ((0 : Int) < (j : Int)) = true := decide_eq_true (by omega)
    have d2' : decide (0 < j) = true := decide_eq_true (by omega)
    have HJ := Lib.hid hj; clear hj
    go_enter Tryz.func64, Tryz.ntmps64
    go_wp2_with (first
      | (go_at_call 77; refine HN.out.mono ?_; rintro e w1 ⟨⟨cs, rfl, hcs, hca⟩, hx1⟩; have hB1 := HB0.out.extNo hx1; have hP1 := hx1.cellNo HP0.out; have HCS := Lib.hid hcs; clear hcs; have HCA := Lib.hid hca; clear hca; have HX1 := Lib.hid hx1; clear hx1; have HB1 := Lib.hid hB1; clear hB1)
      | ((with_reducible refine at_store 22 ?_); (with_reducible refine wpList_store_big _ rfl 164 (.tmp 22) (.tmp 20) rfl w.heap.size 1 185 205 rfl cs rfl HB1.out (by rw [HCS.out]; decide) (by rw [HCS.out]; exact info164) HCA.out ?_); intro w2 hx2 hB2 _ hk2; have hP2 : w2.cell? ⟨w.heap.size, 0, none⟩ = some (.pointer (some ⟨fb, 0, none⟩)) := (hk2 0 (.inl (by decide))).trans hP1; clear hk2; obtain ⟨u3, hu3, -⟩ := hB2.cell 203 (by decide); obtain ⟨u4, hu4, -⟩ := hB2.cell 204 (by decide); have g3 := hB2.frz 203; have g4 := hB2.frz 204; have hx02 : Ext w w2 No := (((Ext.refl w No).alloc _).transNo HX1.out).trans hx2 (fun i hi h => by subst h; exact absurd hi (Nat.lt_irrefl _)); have hm : ∀ v1 v2, (method 486 181 (.pointer (some ⟨fb, 0, none⟩)) "JointRandLength").run Tryz.prog ((w2.setCell ⟨w.heap.size, 204, none⟩ v1).setCell ⟨w.heap.size, 203, none⟩ v2) = .ok (246, params a j c out) ((w2.setCell ⟨w.heap.size, 204, none⟩ v1).setCell ⟨w.heap.size, 203, none⟩ v2) := fun v1 v2 => meth181JointRandLength (HP.out _ No ((hx02.set (.inl (Nat.le_refl _)) v1).set (.inl (Nat.le_refl _)) v2) (fun f => f)); have HB2 := Lib.hid hB2; clear hB2; clear hP1; have HX2 := Lib.hid hx02; clear hx2 hx02)
      | (go_at_call 246; refine (parJ _ _ _ _ _).mono ?_; rintro e w3 ⟨rfl, hx3⟩; have hb3 := ((HB2.out.set 204 (v := .int .u8 (s : Nat)) rfl).set 203 (v := .int .u64 (32 * (s : Int))) rfl).extNo hx3; have hx3' := ((HX2.out.set (.inl (Nat.le_refl _)) _).set (.inl (Nat.le_refl _)) _).transNo hx3; have hp3 : w3.cell? ⟨w.heap.size, 0, none⟩ = some (.pointer (some ⟨fb, 0, none⟩)) := hx3.cellNo (cell_set_ne (cell_set_ne hP2 (by decide)) (by decide)); have hq3 : w3.cell? ⟨w.heap.size, 203, none⟩ = some (.int .u64 (32 * (s : Int))) := hx3.cellNo (World.cell?_setCell_same _ _ _ (cell_set_ne hu3 (by decide))); have hr3 : w3.cell? ⟨w.heap.size, 204, none⟩ = some (.int .u8 (s : Nat)) := hx3.cellNo (cell_set_ne (World.cell?_setCell_same _ _ _ hu4) (by decide)); have g33 := hb3.frz 203; clear hx3; have HX3 := Lib.hid hx3'; clear hx3'; have HB3 := Lib.hid hb3; clear hb3)
      | ((with_reducible refine at_dst 41 ?_); (with_reducible refine wpList_load_big _ rfl 185 (.tmp 8) rfl w.heap.size 0 185 205 205 rfl (by first | exact HB3.out | exact HB3.out.set 203 rfl) (by decide) Tryz.underlying185 rfl info185 ?_); intro ds hds hda hdc; have hd0 := hdc 0 (by decide); have HD3 := Lib.hid (hdc 203 (by decide)); have HD4 := Lib.hid (hdc 204 (by decide)); have HDS := Lib.hid hds; clear hds; have HDA := Lib.hid hda; clear hda; clear hdc; have HD0 := Lib.hid hd0; clear hd0)
      | ((with_reducible refine at_store 8 ?_); (with_reducible refine wpList_store_big _ rfl 185 (.tmp 8) (.tmp 41) rfl w.heap.size 0 185 205 rfl ds rfl (by first | exact HB3.out | exact HB3.out.set 203 rfl) (by rw [HDS.out]; decide) (by rw [HDS.out]; exact info185) HDA.out ?_); intro w4 hx4 hB4 hk4 _; have h40 := hk4 0 (by rw [HDS.out]; decide); have H43 := Lib.hid (hk4 203 (by rw [HDS.out]; decide)); have H44 := Lib.hid (hk4 204 (by rw [HDS.out]; decide)); clear hk4; have HB4 := Lib.hid hB4; clear hB4; have HX4 := Lib.hid hx4; clear hx4; have H40 := Lib.hid h40; clear h40))
    refine bodyPost_big2 (fn := Tryz.f64) rfl rfl rfl HB4.out Tryz.underlying185 rfl info185 (fun es h1 h2 h3 => ⟨⟨es, rfl, h1, h2, ?_, ?_, ?_⟩, ?_⟩)
    · rw [h3 0 (by decide)]
      refine H40.out.trans (HD0.out.trans ?_)
      first
        | exact hp3
        | exact cell_set_ne hp3 (by decide)
    · first
        | exact ⟨_, (h3 203 (by decide)).trans ((H43.out).trans (HD3.out.trans hq3))⟩
        | exact ⟨_, (h3 203 (by decide)).trans ((H43.out).trans (HD3.out.trans (World.cell?_setCell_same _ _ _ hq3)))⟩
    · first
        | exact ⟨_, (h3 204 (by decide)).trans ((H44.out).trans (HD4.out.trans hr3))⟩
        | exact ⟨_, (h3 204 (by decide)).trans ((H44.out).trans (HD4.out.trans (cell_set_ne hr3 (by decide))))⟩
    · have h := HX4.out
      first
        | exact HX3.out.trans h (fun i hi h => by subst h; exact absurd hi (Nat.lt_irrefl _))
        | exact (HX3.out.set (.inl (Nat.le_refl _)) _).trans h (fun i hi h => by subst h; exact absurd hi (Nat.lt_irrefl _))
  · have d2 : decide ((0 : Int) < (j : Int)) = false := decide_eq_false (by omega)
    have d2' : decide (0 < j) = false := decide_eq_false (by omega)
    have HJ := Lib.hid hj; clear hj
    go_enter Tryz.func64, Tryz.ntmps64
    go_wp2_with (first
      | (go_at_call 77; refine HN.out.mono ?_; rintro e w1 ⟨⟨cs, rfl, hcs, hca⟩, hx1⟩; have hB1 := HB0.out.extNo hx1; have hP1 := hx1.cellNo HP0.out; have HCS := Lib.hid hcs; clear hcs; have HCA := Lib.hid hca; clear hca; have HX1 := Lib.hid hx1; clear hx1; have HB1 := Lib.hid hB1; clear hB1)
      | ((with_reducible refine at_store 22 ?_); (with_reducible refine wpList_store_big _ rfl 164 (.tmp 22) (.tmp 20) rfl w.heap.size 1 185 205 rfl cs rfl HB1.out (by rw [HCS.out]; decide) (by rw [HCS.out]; exact info164) HCA.out ?_); intro w2 hx2 hB2 _ hk2; have hP2 : w2.cell? ⟨w.heap.size, 0, none⟩ = some (.pointer (some ⟨fb, 0, none⟩)) := (hk2 0 (.inl (by decide))).trans hP1; clear hk2; obtain ⟨u3, hu3, -⟩ := hB2.cell 203 (by decide); obtain ⟨u4, hu4, -⟩ := hB2.cell 204 (by decide); have g3 := hB2.frz 203; have g4 := hB2.frz 204; have hx02 : Ext w w2 No := (((Ext.refl w No).alloc _).transNo HX1.out).trans hx2 (fun i hi h => by subst h; exact absurd hi (Nat.lt_irrefl _)); have hm : ∀ v1 v2, (method 486 181 (.pointer (some ⟨fb, 0, none⟩)) "JointRandLength").run Tryz.prog ((w2.setCell ⟨w.heap.size, 204, none⟩ v1).setCell ⟨w.heap.size, 203, none⟩ v2) = .ok (246, params a j c out) ((w2.setCell ⟨w.heap.size, 204, none⟩ v1).setCell ⟨w.heap.size, 203, none⟩ v2) := fun v1 v2 => meth181JointRandLength (HP.out _ No ((hx02.set (.inl (Nat.le_refl _)) v1).set (.inl (Nat.le_refl _)) v2) (fun f => f)); have HB2 := Lib.hid hB2; clear hB2; clear hP1; have HX2 := Lib.hid hx02; clear hx2 hx02)
      | (go_at_call 246; refine (parJ _ _ _ _ _).mono ?_; rintro e w3 ⟨rfl, hx3⟩; have hb3 := ((HB2.out.set 204 (v := .int .u8 (s : Nat)) rfl).set 203 (v := .int .u64 (32 * (s : Int))) rfl).extNo hx3; have hx3' := ((HX2.out.set (.inl (Nat.le_refl _)) _).set (.inl (Nat.le_refl _)) _).transNo hx3; have hp3 : w3.cell? ⟨w.heap.size, 0, none⟩ = some (.pointer (some ⟨fb, 0, none⟩)) := hx3.cellNo (cell_set_ne (cell_set_ne hP2 (by decide)) (by decide)); have hq3 : w3.cell? ⟨w.heap.size, 203, none⟩ = some (.int .u64 (32 * (s : Int))) := hx3.cellNo (World.cell?_setCell_same _ _ _ (cell_set_ne hu3 (by decide))); have hr3 : w3.cell? ⟨w.heap.size, 204, none⟩ = some (.int .u8 (s : Nat)) := hx3.cellNo (cell_set_ne (World.cell?_setCell_same _ _ _ hu4) (by decide)); have g33 := hb3.frz 203; clear hx3; have HX3 := Lib.hid hx3'; clear hx3'; have HB3 := Lib.hid hb3; clear hb3)
      | ((with_reducible refine at_dst 41 ?_); (with_reducible refine wpList_load_big _ rfl 185 (.tmp 8) rfl w.heap.size 0 185 205 205 rfl (by first | exact HB3.out | exact HB3.out.set 203 rfl) (by decide) Tryz.underlying185 rfl info185 ?_); intro ds hds hda hdc; have hd0 := hdc 0 (by decide); have HD3 := Lib.hid (hdc 203 (by decide)); have HD4 := Lib.hid (hdc 204 (by decide)); have HDS := Lib.hid hds; clear hds; have HDA := Lib.hid hda; clear hda; clear hdc; have HD0 := Lib.hid hd0; clear hd0)
      | ((with_reducible refine at_store 8 ?_); (with_reducible refine wpList_store_big _ rfl 185 (.tmp 8) (.tmp 41) rfl w.heap.size 0 185 205 rfl ds rfl (by first | exact HB3.out | exact HB3.out.set 203 rfl) (by rw [HDS.out]; decide) (by rw [HDS.out]; exact info185) HDA.out ?_); intro w4 hx4 hB4 hk4 _; have h40 := hk4 0 (by rw [HDS.out]; decide); have H43 := Lib.hid (hk4 203 (by rw [HDS.out]; decide)); have H44 := Lib.hid (hk4 204 (by rw [HDS.out]; decide)); clear hk4; have HB4 := Lib.hid hB4; clear hB4; have HX4 := Lib.hid hx4; clear hx4; have H40 := Lib.hid h40; clear h40))
    refine bodyPost_big2 (fn := Tryz.f64) rfl rfl rfl HB4.out Tryz.underlying185 rfl info185 (fun es h1 h2 h3 => ⟨⟨es, rfl, h1, h2, ?_, ?_, ?_⟩, ?_⟩)
    · rw [h3 0 (by decide)]
      refine H40.out.trans (HD0.out.trans ?_)
      first
        | exact hp3
        | exact cell_set_ne hp3 (by decide)
    · first
        | exact ⟨_, (h3 203 (by decide)).trans ((H43.out).trans (HD3.out.trans hq3))⟩
        | exact ⟨_, (h3 203 (by decide)).trans ((H43.out).trans (HD3.out.trans (World.cell?_setCell_same _ _ _ hq3)))⟩
    · first
        | exact ⟨_, (h3 204 (by decide)).trans ((H44.out).trans (HD4.out.trans hr3))⟩
        | exact ⟨_, (h3 204 (by decide)).trans ((H44.out).trans (HD4.out.trans (cell_set_ne hr3 (by decide))))⟩
    · have h := HX4.out
      first
        | exact HX3.out.trans h (fun i hi h => by subst h; exact absurd hi (Nat.lt_irrefl _))
        | exact (HX3.out.set (.inl (Nat.le_refl _)) _).trans h (fun i hi h => by subst h; exact absurd hi (Nat.lt_irrefl _))
end Go.Proofs.YtlmmdldjfpdcfaaGreatDoor

/-
  A kind's New, each kind.
-/
namespace Go.Proofs.YtlmmdldjfpdcfaaGreatDoor
open Go.RowKit

theorem IsB.ext {w w' : World} {v : Value} {l : List Nat} (h : IsB w v l) (hx : Ext w w' No) : IsB w' v l := by
  obtain ⟨h1, a, c, rfl, h2, h3, h4⟩ := h
  refine ⟨h1, a, c, rfl, h2, h3, ?_⟩
  rcases h4 with h4 | ⟨b, o, h5, h6⟩
  · exact .inl h4
  · exact .inr ⟨b, o, h5, fun i hi => hx.cellNo (h6 i hi)⟩
/-- A kind's block kb: its proof system lies at fb. -/
def Kind (t gi kb out : Nat) (w : World) : Prop := ∃ fb, w.cell? ⟨kb, 0, none⟩ = some (.pointer (some ⟨fb, 0, none⟩)) ∧ Flp t gi fb out w ∧ (∃ u, w.cell? ⟨kb, 203, none⟩ = some (.int .u64 u)) ∧ ∃ u, w.cell? ⟨kb, 204, none⟩ = some (.int .u8 u)
theorem Kind.extNo {t gi kb out : Nat} {w w' : World} (h : Kind t gi kb out w) (hx : Ext w w' No) : Kind t gi kb out w' := by
  obtain ⟨fb, h1, h2, ⟨u, h3⟩, ⟨v, h4⟩⟩ := h
  exact ⟨fb, hx.cellNo h1, h2.extNo hx, ⟨u, hx.cellNo h3⟩, ⟨v, hx.cellNo h4⟩⟩
theorem Kind.ext {t gi kb out : Nat} {w w' : World} {S : Nat → Prop} (h : Kind t gi kb out w) (hx : Ext w w' S) (hS : ∀ k, k < w.heap.size → S k → False) : Kind t gi kb out w' := by
  obtain ⟨fb, h1, h2, ⟨u, h3⟩, ⟨v, h4⟩⟩ := h
  exact ⟨fb, hx.cell h1 (fun h => hS _ (World.block_lt_of_cell? _ _ h1) h), h2.ext hx (fun h => hS _ h2.lt h), ⟨u, hx.cell h3 (fun h => hS _ (World.block_lt_of_cell? _ _ h1) h)⟩, ⟨v, hx.cell h4 (fun h => hS _ (World.block_lt_of_cell? _ _ h1) h)⟩⟩

theorem info142 : (Tryz.prog.info? 142).map (·.size) = some 205 := by kernel_rfl
theorem z142 : Tryz.zeroCells142.size = 205 ∧ Tryz.zeroCells142.all (·.oneCell') = true := ⟨by kernel_rfl, by kernel_rfl⟩
set_option maxRecDepth 20000 in
theorem kindCount {s : Nat} {v : Value} {w : World} (l : List Nat) (hB : IsB w v l) (hnil : ∀ m c, v = .slice none m c → c = 0) (hl : l.length ≤ 65527) (hs0 : 2 ≤ s) (hs : s ≤ 255) :
    Calls Tryz.prog 27 #[.int .u8 (s : Nat), v] w fun e w' =>
      ∃ kb, e = .returned (.tuple #[.pointer (some ⟨kb, 0, none⟩), .nilIface]) ∧ Ext w w' No ∧ Kind 208 1 kb 1 w' ∧ w.heap.size ≤ kb := by
  have HB := Lib.hid hB; clear hB
  have HN := Lib.hid hnil; clear hnil
  go_enter Tryz.func27, Tryz.ntmps27
  go_wp2_with (first
    | (go_at_call 52; refine (flpCount' _).mono ?_; rintro e w1 ⟨fb, rfl, hx1, hF1, hle⟩; have HF1 := Lib.hid hF1; clear hF1; have hx1' := ((Ext.refl w No).alloc _).transNo hx1; have hB1 : Big w.heap.size 142 205 w1 := (Big.new w _ z142.1 z142.2).extNo hx1; have HB1 := Lib.hid hB1; clear hB1; have HX1 := Lib.hid hx1'; clear hx1 hx1'; have hle2 : w.heap.size < fb := Nat.lt_of_lt_of_le (by simp) hle)
    | (go_at_call 51; refine (newCount l (HB.out.ext HX1.out) HN.out hl hs0 hs HF1.out).mono ?_; rintro e w2 ⟨⟨cs, rfl, hcs, hca, hc0, ⟨u3, hc3⟩, ⟨u4, hc4⟩⟩, hx2⟩; have HC3 := Lib.hid hc3; clear hc3; have HC4 := Lib.hid hc4; clear hc4; have hB2 : Big w.heap.size 142 205 w2 := HB1.out.extNo hx2; have hF2 : Flp 208 1 fb 1 w2 := HF1.out.extNo hx2; have hx02 : Ext w w2 No := HX1.out.transNo hx2; have HCS := Lib.hid hcs; clear hcs; have HCA := Lib.hid hca; clear hca; have HC0 := Lib.hid hc0; clear hc0; have HB2 := Lib.hid hB2; clear hB2; have HF2 := Lib.hid hF2; clear hF2; have HX2 := Lib.hid hx02; clear hx2 hx02)
    | ((with_reducible refine at_store 16 ?_); (with_reducible refine wpList_store_big _ rfl 140 (.tmp 16) (.tmp 13) rfl w.heap.size 0 142 205 rfl cs rfl HB2.out (by rw [HCS.out]; decide) (by rw [HCS.out]; exact info140) HCA.out ?_); intro w3 hx3 hB3 hk3 _; have h30 := hk3 0 (by rw [HCS.out]; decide); have H33 := Lib.hid (hk3 203 (by rw [HCS.out]; decide)); have H34 := Lib.hid (hk3 204 (by rw [HCS.out]; decide)); clear hk3 hB3; have HX3 := Lib.hid hx3; clear hx3; have H30 := Lib.hid h30; clear h30))
  go_ret2
  exact ⟨w.heap.size, rfl, HX2.out.trans HX3.out (fun i hi h => by omega), ⟨fb, H30.out.trans HC0.out, HF2.out.ext HX3.out (by omega), ⟨_, H33.out.trans HC3.out⟩, ⟨_, H34.out.trans HC4.out⟩⟩, Nat.le_refl _⟩

theorem info154 : (Tryz.prog.info? 154).map (·.size) = some 205 := by kernel_rfl
theorem z154 : Tryz.zeroCells154.size = 205 ∧ Tryz.zeroCells154.all (·.oneCell') = true := ⟨by kernel_rfl, by kernel_rfl⟩
set_option maxRecDepth 20000 in
theorem kindSum {m : Nat} {s : Nat} {v : Value} {w : World} (l : List Nat) (hB : IsB w v l) (hnil : ∀ m c, v = .slice none m c → c = 0) (hl : l.length ≤ 65527) (hs0 : 2 ≤ s) (hs : s ≤ 255) (hm : m < 9223372036854775808) :
    Calls Tryz.prog 28 #[.int .u8 (s : Nat), .int .u64 (m : Nat), v] w fun e w' =>
      ∃ kb, e = .returned (.tuple #[.pointer (some ⟨kb, 0, none⟩), .nilIface]) ∧ Ext w w' No ∧ Kind 215 1 kb 1 w' ∧ w.heap.size ≤ kb := by
  have HB := Lib.hid hB; clear hB
  have HN := Lib.hid hnil; clear hnil
  go_enter Tryz.func28, Tryz.ntmps28
  go_wp2_with (first
    | (go_at_call 53; refine (flpSum hm _).mono ?_; rintro e w1 ⟨fb, rfl, hx1, hF1, hle⟩; have HF1 := Lib.hid hF1; clear hF1; have HX1 := Lib.hid hx1; clear hx1)
    | (go_at_call 54; refine (newSum l (HB.out.ext (HX1.out.alloc _)) HN.out hl hs0 hs (HF1.out.extNo ((Ext.refl w1 No).alloc _))).mono ?_; rintro e w2 ⟨⟨cs, rfl, hcs, hca, hc0, ⟨u3, hc3⟩, ⟨u4, hc4⟩⟩, hx2⟩; have HC3 := Lib.hid hc3; clear hc3; have HC4 := Lib.hid hc4; clear hc4; have hB2 : Big w1.heap.size 154 205 w2 := (Big.new w1 _ z154.1 z154.2).extNo hx2; have hF2 : Flp 215 1 fb 1 w2 := (HF1.out.extNo ((Ext.refl w1 No).alloc _)).extNo hx2; have hx02 : Ext w w2 No := (HX1.out.alloc _).transNo hx2; have l1 := HX1.out.size; have lf := HF1.out.lt; have HCS := Lib.hid hcs; clear hcs; have HCA := Lib.hid hca; clear hca; have HC0 := Lib.hid hc0; clear hc0; have HB2 := Lib.hid hB2; clear hB2; have HF2 := Lib.hid hF2; clear hF2; have HX2 := Lib.hid hx02; clear hx2 hx02)
    | ((with_reducible refine at_store 27 ?_); (with_reducible refine wpList_store_big _ rfl 152 (.tmp 27) (.tmp 24) rfl w1.heap.size 0 154 205 rfl cs rfl HB2.out (by rw [HCS.out]; decide) (by rw [HCS.out]; exact info152) HCA.out ?_); intro w3 hx3 hB3 hk3 _; have h30 := hk3 0 (by rw [HCS.out]; decide); have H33 := Lib.hid (hk3 203 (by rw [HCS.out]; decide)); have H34 := Lib.hid (hk3 204 (by rw [HCS.out]; decide)); clear hk3 hB3; have HX3 := Lib.hid hx3; clear hx3; have H30 := Lib.hid h30; clear h30))
  go_ret2
  exact ⟨w1.heap.size, rfl, HX2.out.trans HX3.out (fun i hi h => by omega), ⟨fb, H30.out.trans HC0.out, HF2.out.ext HX3.out (by omega), ⟨_, H33.out.trans HC3.out⟩, ⟨_, H34.out.trans HC4.out⟩⟩, l1⟩

theorem info168 : (Tryz.prog.info? 168).map (·.size) = some 205 := by kernel_rfl
theorem z168 : Tryz.zeroCells168.size = 205 ∧ Tryz.zeroCells168.all (·.oneCell') = true := ⟨by kernel_rfl, by kernel_rfl⟩
set_option maxRecDepth 20000 in
theorem kindSv {n b c : Nat} {s : Nat} {v : Value} {w : World} (l : List Nat) (hB : IsB w v l) (hnil : ∀ m c, v = .slice none m c → c = 0) (hl : l.length ≤ 65527) (hs0 : 2 ≤ s) (hs : s ≤ 255) (hn0 : 0 < n) (hn : n ≤ 16) (hb0 : 0 < b) (hb : b ≤ 64) (hc0 : 0 < c) (hc : c ≤ 16) :
    Calls Tryz.prog 32 #[.int .u8 (s : Nat), .int .u64 (n : Nat), .int .u64 (b : Nat), .int .u64 (c : Nat), v] w fun e w' =>
      ∃ kb, e = .returned (.tuple #[.pointer (some ⟨kb, 0, none⟩), .nilIface]) ∧ Ext w w' No ∧ Kind 238 2 kb n w' ∧ w.heap.size ≤ kb := by
  have HB := Lib.hid hB; clear hB
  have HN := Lib.hid hnil; clear hnil
  go_enter Tryz.func32, Tryz.ntmps32
  go_wp2_with (first
    | (go_at_call 59; refine (flpSv hn0 hn hb0 hb hc0 hc _).mono ?_; rintro e w1 ⟨fb, rfl, hx1, hF1, hle⟩; have HF1 := Lib.hid hF1; clear hF1; have HX1 := Lib.hid hx1; clear hx1)
    | (go_at_call 60; refine (newSv l (HB.out.ext (HX1.out.alloc _)) HN.out hl hs0 hs (HF1.out.extNo ((Ext.refl w1 No).alloc _))).mono ?_; rintro e w2 ⟨⟨cs, rfl, hcs, hca, hc0, ⟨u3, hc3⟩, ⟨u4, hc4⟩⟩, hx2⟩; have HC3 := Lib.hid hc3; clear hc3; have HC4 := Lib.hid hc4; clear hc4; have hB2 : Big w1.heap.size 168 205 w2 := (Big.new w1 _ z168.1 z168.2).extNo hx2; have hF2 : Flp 238 2 fb n w2 := (HF1.out.extNo ((Ext.refl w1 No).alloc _)).extNo hx2; have hx02 : Ext w w2 No := (HX1.out.alloc _).transNo hx2; have l1 := HX1.out.size; have lf := HF1.out.lt; have HCS := Lib.hid hcs; clear hcs; have HCA := Lib.hid hca; clear hca; have HC0 := Lib.hid hc0; clear hc0; have HB2 := Lib.hid hB2; clear hB2; have HF2 := Lib.hid hF2; clear hF2; have HX2 := Lib.hid hx02; clear hx2 hx02)
    | ((with_reducible refine at_store 33 ?_); (with_reducible refine wpList_store_big _ rfl 166 (.tmp 33) (.tmp 30) rfl w1.heap.size 0 168 205 rfl cs rfl HB2.out (by rw [HCS.out]; decide) (by rw [HCS.out]; exact info166) HCA.out ?_); intro w3 hx3 hB3 hk3 _; have h30 := hk3 0 (by rw [HCS.out]; decide); have H33 := Lib.hid (hk3 203 (by rw [HCS.out]; decide)); have H34 := Lib.hid (hk3 204 (by rw [HCS.out]; decide)); clear hk3 hB3; have HX3 := Lib.hid hx3; clear hx3; have H30 := Lib.hid h30; clear h30))
  go_ret2
  exact ⟨w1.heap.size, rfl, HX2.out.trans HX3.out (fun i hi h => by omega), ⟨fb, H30.out.trans HC0.out, HF2.out.ext HX3.out (by omega), ⟨_, H33.out.trans HC3.out⟩, ⟨_, H34.out.trans HC4.out⟩⟩, l1⟩

theorem info177 : (Tryz.prog.info? 177).map (·.size) = some 205 := by kernel_rfl
theorem z177 : Tryz.zeroCells177.size = 205 ∧ Tryz.zeroCells177.all (·.oneCell') = true := ⟨by kernel_rfl, by kernel_rfl⟩
set_option maxRecDepth 20000 in
theorem kindHist {n c : Nat} {s : Nat} {v : Value} {w : World} (l : List Nat) (hB : IsB w v l) (hnil : ∀ m c, v = .slice none m c → c = 0) (hl : l.length ≤ 65527) (hs0 : 2 ≤ s) (hs : s ≤ 255) (hn0 : 0 < n) (hn : n ≤ 16) (hc0 : 0 < c) (hc : c ≤ 16) :
    Calls Tryz.prog 33 #[.int .u8 (s : Nat), .int .u64 (n : Nat), .int .u64 (c : Nat), v] w fun e w' =>
      ∃ kb, e = .returned (.tuple #[.pointer (some ⟨kb, 0, none⟩), .nilIface]) ∧ Ext w w' No ∧ Kind 242 2 kb n w' ∧ w.heap.size ≤ kb := by
  have d1 : ((n : Int) == 0) = false := by simp; omega
  have d3 : ((c : Int) == 0) = false := by simp; omega
  have HB := Lib.hid hB; clear hB
  have HN := Lib.hid hnil; clear hnil
  go_enter Tryz.func33, Tryz.ntmps33
  go_wp2_with (first
    | (go_at_call 62; refine (flpHist hn0 hn hc0 hc _).mono ?_; rintro e w1 ⟨fb, rfl, hx1, hF1, hle⟩; have HF1 := Lib.hid hF1; clear hF1; have hx1' := ((Ext.refl w No).alloc _).transNo hx1; have hB1 : Big w.heap.size 177 205 w1 := (Big.new w _ z177.1 z177.2).extNo hx1; have HB1 := Lib.hid hB1; clear hB1; have HX1 := Lib.hid hx1'; clear hx1 hx1'; have hle2 : w.heap.size < fb := Nat.lt_of_lt_of_le (by simp) hle)
    | (go_at_call 61; refine (newHist l (HB.out.ext HX1.out) HN.out hl hs0 hs HF1.out).mono ?_; rintro e w2 ⟨⟨cs, rfl, hcs, hca, hc0, ⟨u3, hc3⟩, ⟨u4, hc4⟩⟩, hx2⟩; have HC3 := Lib.hid hc3; clear hc3; have HC4 := Lib.hid hc4; clear hc4; have hB2 : Big w.heap.size 177 205 w2 := HB1.out.extNo hx2; have hF2 : Flp 242 2 fb n w2 := HF1.out.extNo hx2; have hx02 : Ext w w2 No := HX1.out.transNo hx2; have HCS := Lib.hid hcs; clear hcs; have HCA := Lib.hid hca; clear hca; have HC0 := Lib.hid hc0; clear hc0; have HB2 := Lib.hid hB2; clear hB2; have HF2 := Lib.hid hF2; clear hF2; have HX2 := Lib.hid hx02; clear hx2 hx02)
    | ((with_reducible refine at_store 28 ?_); (with_reducible refine wpList_store_big _ rfl 175 (.tmp 28) (.tmp 25) rfl w.heap.size 0 177 205 rfl cs rfl HB2.out (by rw [HCS.out]; decide) (by rw [HCS.out]; exact info175) HCA.out ?_); intro w3 hx3 hB3 hk3 _; have h30 := hk3 0 (by rw [HCS.out]; decide); have H33 := Lib.hid (hk3 203 (by rw [HCS.out]; decide)); have H34 := Lib.hid (hk3 204 (by rw [HCS.out]; decide)); clear hk3 hB3; have HX3 := Lib.hid hx3; clear hx3; have H30 := Lib.hid h30; clear h30))
  go_ret2
  exact ⟨w.heap.size, rfl, HX2.out.trans HX3.out (fun i hi h => by omega), ⟨fb, H30.out.trans HC0.out, HF2.out.ext HX3.out (by omega), ⟨_, H33.out.trans HC3.out⟩, ⟨_, H34.out.trans HC4.out⟩⟩, Nat.le_refl _⟩

theorem info187 : (Tryz.prog.info? 187).map (·.size) = some 205 := by kernel_rfl
theorem z187 : Tryz.zeroCells187.size = 205 ∧ Tryz.zeroCells187.all (·.oneCell') = true := ⟨by kernel_rfl, by kernel_rfl⟩
set_option maxRecDepth 20000 in
theorem kindMhcv {n m c : Nat} {s : Nat} {v : Value} {w : World} (l : List Nat) (hB : IsB w v l) (hnil : ∀ m c, v = .slice none m c → c = 0) (hl : l.length ≤ 65527) (hs0 : 2 ≤ s) (hs : s ≤ 255) (hn0 : 0 < n) (hn : n ≤ 16) (hm : m ≤ n) (hc0 : 0 < c) (hc : c ≤ 16) :
    Calls Tryz.prog 34 #[.int .u8 (s : Nat), .int .u64 (n : Nat), .int .u64 (m : Nat), .int .u64 (c : Nat), v] w fun e w' =>
      ∃ kb, e = .returned (.tuple #[.pointer (some ⟨kb, 0, none⟩), .nilIface]) ∧ Ext w w' No ∧ Kind 246 2 kb n w' ∧ w.heap.size ≤ kb := by
  have HB := Lib.hid hB; clear hB
  have HN := Lib.hid hnil; clear hnil
  go_enter Tryz.func34, Tryz.ntmps34
  go_wp2_with (first
    | (go_at_call 63; refine (flpMhcv hn0 hn hm hc0 hc _).mono ?_; rintro e w1 ⟨fb, rfl, hx1, hF1, hle⟩; have HF1 := Lib.hid hF1; clear hF1; have HX1 := Lib.hid hx1; clear hx1)
    | (go_at_call 64; refine (newMhcv l (HB.out.ext (HX1.out.alloc _)) HN.out hl hs0 hs (HF1.out.extNo ((Ext.refl w1 No).alloc _))).mono ?_; rintro e w2 ⟨⟨cs, rfl, hcs, hca, hc0, ⟨u3, hc3⟩, ⟨u4, hc4⟩⟩, hx2⟩; have HC3 := Lib.hid hc3; clear hc3; have HC4 := Lib.hid hc4; clear hc4; have hB2 : Big w1.heap.size 187 205 w2 := (Big.new w1 _ z187.1 z187.2).extNo hx2; have hF2 : Flp 246 2 fb n w2 := (HF1.out.extNo ((Ext.refl w1 No).alloc _)).extNo hx2; have hx02 : Ext w w2 No := (HX1.out.alloc _).transNo hx2; have l1 := HX1.out.size; have lf := HF1.out.lt; have HCS := Lib.hid hcs; clear hcs; have HCA := Lib.hid hca; clear hca; have HC0 := Lib.hid hc0; clear hc0; have HB2 := Lib.hid hB2; clear hB2; have HF2 := Lib.hid hF2; clear hF2; have HX2 := Lib.hid hx02; clear hx2 hx02)
    | ((with_reducible refine at_store 33 ?_); (with_reducible refine wpList_store_big _ rfl 185 (.tmp 33) (.tmp 30) rfl w1.heap.size 0 187 205 rfl cs rfl HB2.out (by rw [HCS.out]; decide) (by rw [HCS.out]; exact info185) HCA.out ?_); intro w3 hx3 hB3 hk3 _; have h30 := hk3 0 (by rw [HCS.out]; decide); have H33 := Lib.hid (hk3 203 (by rw [HCS.out]; decide)); have H34 := Lib.hid (hk3 204 (by rw [HCS.out]; decide)); clear hk3 hB3; have HX3 := Lib.hid hx3; clear hx3; have H30 := Lib.hid h30; clear h30))
  go_ret2
  exact ⟨w1.heap.size, rfl, HX2.out.trans HX3.out (fun i hi h => by omega), ⟨fb, H30.out.trans HC0.out, HF2.out.ext HX3.out (by omega), ⟨_, H33.out.trans HC3.out⟩, ⟨_, H34.out.trans HC4.out⟩⟩, l1⟩
end Go.Proofs.YtlmmdldjfpdcfaaGreatDoor

/-
  impl: the kinds made (small, large).
-/
namespace Go.Proofs.YtlmmdldjfpdcfaaGreatDoor
open Go.RowKit

/-- The parameters, as the laws hand them in. -/
def parV (k s n b c m : Nat) (v : Value) : Value := .agg #[.int .i64 (k : Nat), .int .i64 (s : Nat), .int .i64 (n : Nat), .int .i64 (b : Nat), .int .i64 (c : Nat), .int .u64 (m : Nat), v]

theorem made1 {s n b c m : Nat} {v : Value} {w : World} (l : List Nat) (hB : IsB w v l) (hnil : ∀ m c, v = .slice none m c → c = 0) (hl : l.length ≤ 65527) (hs0 : 2 ≤ s) (hs : s ≤ 255) :
    Calls Tryz.prog 17 #[parV 1 s n b c m v] w fun e w' => ∃ kb, e = .returned (.iface 66 (.pointer (some ⟨kb, 0, none⟩))) ∧ Ext w w' No ∧ Kind 208 1 kb 1 w' ∧ w.heap.size ≤ kb := by
  have K := fun o => kindCount (w := w.alloc o) l (hB.ext ((Ext.refl w No).alloc o)) hnil hl hs0 hs 
  have HK := Lib.hid K; clear K
  obtain ⟨-, a0, c0, rfl, -⟩ := hB
  clear hnil
  unfold parV
  go_enter Tryz.func17, Tryz.ntmps17
  go_wp2_with (go_at_call 27; refine (HK.out _).mono ?_; rintro e w1 ⟨kb, rfl, hx, hk, hle⟩)
  go_ret
  exact ⟨kb, rfl, ((Ext.refl w No).alloc _).transNo hx, hk, Nat.le_trans (by simp) hle⟩

theorem made2 {s n b c m : Nat} {v : Value} {w : World} (l : List Nat) (hB : IsB w v l) (hnil : ∀ m c, v = .slice none m c → c = 0) (hl : l.length ≤ 65527) (hs0 : 2 ≤ s) (hs : s ≤ 255) (hm : m < 9223372036854775808) :
    Calls Tryz.prog 17 #[parV 2 s n b c m v] w fun e w' => ∃ kb, e = .returned (.iface 71 (.pointer (some ⟨kb, 0, none⟩))) ∧ Ext w w' No ∧ Kind 215 1 kb 1 w' ∧ w.heap.size ≤ kb := by
  have K := fun o => kindSum (w := w.alloc o) l (hB.ext ((Ext.refl w No).alloc o)) hnil hl hs0 hs hm 
  have HK := Lib.hid K; clear K
  obtain ⟨-, a0, c0, rfl, -⟩ := hB
  clear hnil
  unfold parV
  go_enter Tryz.func17, Tryz.ntmps17
  go_wp2_with (go_at_call 28; refine (HK.out _).mono ?_; rintro e w1 ⟨kb, rfl, hx, hk, hle⟩)
  go_ret
  exact ⟨kb, rfl, ((Ext.refl w No).alloc _).transNo hx, hk, Nat.le_trans (by simp) hle⟩

theorem made3 {s n b c m : Nat} {v : Value} {w : World} (l : List Nat) (hB : IsB w v l) (hnil : ∀ m c, v = .slice none m c → c = 0) (hl : l.length ≤ 65527) (hs0 : 2 ≤ s) (hs : s ≤ 255) (hn0 : 0 < n) (hn : n ≤ 16) (hb0 : 0 < b) (hb : b ≤ 64) (hc0 : 0 < c) (hc : c ≤ 16) :
    Calls Tryz.prog 19 #[parV 3 s n b c m v] w fun e w' => ∃ kb, e = .returned (.iface 90 (.pointer (some ⟨kb, 0, none⟩))) ∧ Ext w w' No ∧ Kind 238 2 kb n w' ∧ w.heap.size ≤ kb := by
  have K := fun o => kindSv (w := w.alloc o) l (hB.ext ((Ext.refl w No).alloc o)) hnil hl hs0 hs hn0 hn hb0 hb hc0 hc 
  have HK := Lib.hid K; clear K
  obtain ⟨-, a0, c0, rfl, -⟩ := hB
  clear hnil
  unfold parV
  go_enter Tryz.func19, Tryz.ntmps19
  go_wp2_with (go_at_call 32; refine (HK.out _).mono ?_; rintro e w1 ⟨kb, rfl, hx, hk, hle⟩)
  go_ret
  exact ⟨kb, rfl, ((Ext.refl w No).alloc _).transNo hx, hk, Nat.le_trans (by simp) hle⟩

theorem made4 {s n b c m : Nat} {v : Value} {w : World} (l : List Nat) (hB : IsB w v l) (hnil : ∀ m c, v = .slice none m c → c = 0) (hl : l.length ≤ 65527) (hs0 : 2 ≤ s) (hs : s ≤ 255) (hn0 : 0 < n) (hn : n ≤ 16) (hc0 : 0 < c) (hc : c ≤ 16) :
    Calls Tryz.prog 19 #[parV 4 s n b c m v] w fun e w' => ∃ kb, e = .returned (.iface 93 (.pointer (some ⟨kb, 0, none⟩))) ∧ Ext w w' No ∧ Kind 242 2 kb n w' ∧ w.heap.size ≤ kb := by
  have K := fun o => kindHist (w := w.alloc o) l (hB.ext ((Ext.refl w No).alloc o)) hnil hl hs0 hs hn0 hn hc0 hc 
  have HK := Lib.hid K; clear K
  obtain ⟨-, a0, c0, rfl, -⟩ := hB
  clear hnil
  unfold parV
  go_enter Tryz.func19, Tryz.ntmps19
  go_wp2_with (go_at_call 33; refine (HK.out _).mono ?_; rintro e w1 ⟨kb, rfl, hx, hk, hle⟩)
  go_ret
  exact ⟨kb, rfl, ((Ext.refl w No).alloc _).transNo hx, hk, Nat.le_trans (by simp) hle⟩

theorem made5 {s n b c m : Nat} {v : Value} {w : World} (l : List Nat) (hB : IsB w v l) (hnil : ∀ m c, v = .slice none m c → c = 0) (hl : l.length ≤ 65527) (hs0 : 2 ≤ s) (hs : s ≤ 255) (hn0 : 0 < n) (hn : n ≤ 16) (hm : m ≤ n) (hc0 : 0 < c) (hc : c ≤ 16) :
    Calls Tryz.prog 19 #[parV 5 s n b c m v] w fun e w' => ∃ kb, e = .returned (.iface 96 (.pointer (some ⟨kb, 0, none⟩))) ∧ Ext w w' No ∧ Kind 246 2 kb n w' ∧ w.heap.size ≤ kb := by
  have K := fun o => kindMhcv (w := w.alloc o) l (hB.ext ((Ext.refl w No).alloc o)) hnil hl hs0 hs hn0 hn hm hc0 hc 
  have HK := Lib.hid K; clear K
  obtain ⟨-, a0, c0, rfl, -⟩ := hB
  clear hnil
  unfold parV
  go_enter Tryz.func19, Tryz.ntmps19
  go_wp2_with (go_at_call 34; refine (HK.out _).mono ?_; rintro e w1 ⟨kb, rfl, hx, hk, hle⟩)
  go_ret
  exact ⟨kb, rfl, ((Ext.refl w No).alloc _).transNo hx, hk, Nat.le_trans (by simp) hle⟩

theorem smallNo {k s n b c m : Nat} {v : Value} {w : World} (hk : k = 3 ∨ k = 4 ∨ k = 5) : Calls Tryz.prog 17 #[parV k s n b c m v] w fun e w' => e = .returned .nilIface ∧ Ext w w' No := by
  unfold parV
  rcases hk with rfl | rfl | rfl
  · go_enter Tryz.func17, Tryz.ntmps17
    go_wp2
    go_ret
    exact ⟨rfl, (Ext.refl w No).alloc _⟩
  · go_enter Tryz.func17, Tryz.ntmps17
    go_wp2
    go_ret
    exact ⟨rfl, (Ext.refl w No).alloc _⟩
  · go_enter Tryz.func17, Tryz.ntmps17
    go_wp2
    go_ret
    exact ⟨rfl, (Ext.refl w No).alloc _⟩
end Go.Proofs.YtlmmdldjfpdcfaaGreatDoor
