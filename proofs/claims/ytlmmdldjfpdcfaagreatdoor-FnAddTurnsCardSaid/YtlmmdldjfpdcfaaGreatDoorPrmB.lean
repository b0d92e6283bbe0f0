/-
  Params: Sum.
-/
import Derived.Test.YtlmmdldjfpdcfaaGreatDoorTenA
namespace Go.Proofs.YtlmmdldjfpdcfaaGreatDoor
open Go.RowKit

@[go_sem] theorem ahead148ProofLength (b : Nat) (w : World) : (nilAhead 486 148 (.pointer (some ⟨b, 0, none⟩)) "ProofLength").run Tryz.prog w = .ok (some false) w := by kernel_rfl
@[go_sem] theorem meth148ProofLength (b : Nat) (w : World) : (method 486 148 (.pointer (some ⟨b, 0, none⟩)) "ProofLength").run Tryz.prog w = .ok (264, .pointer (some ⟨b, 1, none⟩)) w := by kernel_rfl
@[go_sem] theorem ahead148ProveRandLength (b : Nat) (w : World) : (nilAhead 486 148 (.pointer (some ⟨b, 0, none⟩)) "ProveRandLength").run Tryz.prog w = .ok (some false) w := by kernel_rfl
@[go_sem] theorem meth148ProveRandLength (b : Nat) (w : World) : (method 486 148 (.pointer (some ⟨b, 0, none⟩)) "ProveRandLength").run Tryz.prog w = .ok (265, .pointer (some ⟨b, 1, none⟩)) w := by kernel_rfl
@[go_sem] theorem ahead148VerifierLength (b : Nat) (w : World) : (nilAhead 486 148 (.pointer (some ⟨b, 0, none⟩)) "VerifierLength").run Tryz.prog w = .ok (some false) w := by kernel_rfl
@[go_sem] theorem meth148VerifierLength (b : Nat) (w : World) : (method 486 148 (.pointer (some ⟨b, 0, none⟩)) "VerifierLength").run Tryz.prog w = .ok (266, .pointer (some ⟨b, 1, none⟩)) w := by kernel_rfl
theorem cellsP215 : (Tryz.prog.cellsOf 215 == 0) = false ∧ Tryz.prog.cellsOf 215 = 9 ∧ byteOfCell Tryz.prog Tryz.prog.depth 215 1 = some 8 := ⟨by kernel_rfl, by kernel_rfl, by kernel_rfl⟩

set_option maxRecDepth 100000 in
set_option maxHeartbeats 4000000 in
theorem prmSumA {kb out : Nat} {w : World} (hK : Kind 215 1 kb out w) (hD : Deb w) : Calls Tryz.prog 191 #[.pointer (some ⟨kb, 0, none⟩)] w fun e w' =>
    (∃ cs : Array Value, e = .returned (.agg cs) ∧ cs.size = 10 ∧ cs.all (·.oneCell') = true ∧ cs[2]? = some (.int .u64 (out : Nat))) ∧ Ext w w' No := by
  obtain ⟨fb, hc, hF, ⟨u3, hc3⟩, ⟨u4, hc4⟩⟩ := hK
  obtain ⟨a, j, c, la, lj, lc, hP⟩ := hF.par
  obtain ⟨g, hg, lg⟩ : ∃ g : Nat, w.cell? ⟨fb, 1, none⟩ = some (.int .u64 (g : Nat)) ∧ g < 18446744073709551616 := by
    obtain ⟨cs, hb, hn, -⟩ := hF
    obtain ⟨g, h1, h2⟩ := hn 1 (by omega) (by omega)
    exact ⟨g, (blk_cell hb 1).trans h1, h2⟩
  have hpp : ∀ w', Ext w w' No → (partAt ⟨fb, 1, none⟩ 0 0).run Tryz.prog w' = .ok ⟨fb, 1, none⟩ w' := by
    obtain ⟨cs, hb, -⟩ := hF
    intro w' hx
    exact partAt0 (hx.blkNo hb) cellsP215.1 (by rw [cellsP215.2.1]; exact cellsP215.2.2)
  have hW : Ext w (w.alloc (.cells #[.int .u64 0, .int .u64 0, .int .u64 0, .int .u64 0, .int .u64 0, .int .u64 0, .int .u64 0, .int .u64 0, .int .u64 0, .int .u8 0] 76)) No := (Ext.refl w No).alloc _
  have Hprove := Lib.hid (fun w' (hx : Ext (w.alloc (.cells #[.int .u64 0, .int .u64 0, .int .u64 0, .int .u64 0, .int .u64 0, .int .u64 0, .int .u64 0, .int .u64 0, .int .u64 0, .int .u8 0] 76)) w' No) => prove2 (fb := fb) (g := g) ((hW.transNo hx).cellNo hg) (fun w'' h => hpp w'' ((hW.transNo hx).transNo h)) (hD.extNo (hW.transNo hx)))
  have Hproof := Lib.hid (fun w' (hx : Ext (w.alloc (.cells #[.int .u64 0, .int .u64 0, .int .u64 0, .int .u64 0, .int .u64 0, .int .u64 0, .int .u64 0, .int .u64 0, .int .u64 0, .int .u8 0] 76)) w' No) => proof2 (fb := fb) (g := g) ((hW.transNo hx).cellNo hg) (fun w'' h => hpp w'' ((hW.transNo hx).transNo h)) (hD.extNo (hW.transNo hx)))
  have Hveri := Lib.hid (fun w' (hx : Ext (w.alloc (.cells #[.int .u64 0, .int .u64 0, .int .u64 0, .int .u64 0, .int .u64 0, .int .u64 0, .int .u64 0, .int .u64 0, .int .u64 0, .int .u8 0] 76)) w' No) => veri2 (fb := fb) (g := g) ((hW.transNo hx).cellNo hg) (fun w'' h => hpp w'' ((hW.transNo hx).transNo h)) (hD.extNo (hW.transNo hx)))
  have hT : ∀ w', Ext w w' No → w'.cell? ⟨kb, 0, none⟩ = some (.pointer (some ⟨fb, 0, none⟩)) ∧ w'.cell? ⟨kb, 203, none⟩ = some (.int .u64 u3) ∧ w'.cell? ⟨kb, 204, none⟩ = some (.int .u8 u4) ∧ Par 1 fb a j c out w' := fun w' hx =>
    ⟨hx.cellNo hc, hx.cellNo hc3, hx.cellNo hc4, hP _ No hx (fun f => f)⟩
  have HT0 := Lib.hid (hT _ hW.drew)
  have HT := Lib.hid hT; clear hT
  have hmJ : ∀ w', Par 1 fb a j c out w' → (method 486 148 (.pointer (some ⟨fb, 0, none⟩)) "JointRandLength").run Tryz.prog w' = .ok (246, params a j c out) w' := fun w' h => meth148JointRandLength h
  have hmM : ∀ w', Par 1 fb a j c out w' → (method 486 148 (.pointer (some ⟨fb, 0, none⟩)) "MeasurementLength").run Tryz.prog w' = .ok (247, params a j c out) w' := fun w' h => meth148MeasurementLength h
  have hmO : ∀ w', Par 1 fb a j c out w' → (method 486 148 (.pointer (some ⟨fb, 0, none⟩)) "OutputLength").run Tryz.prog w' = .ok (248, params a j c out) w' := fun w' h => meth148OutputLength h
  have hmE : ∀ w', Par 1 fb a j c out w' → (method 486 148 (.pointer (some ⟨fb, 0, none⟩)) "EvalOutputLength").run Tryz.prog w' = .ok (245, params a j c out) w' := fun w' h => meth148EvalOutputLength h
  have hmQ : ∀ w', Par 1 fb a j c out w' → (method 486 148 (.pointer (some ⟨fb, 0, none⟩)) "QueryRandLength").run Tryz.prog w' = .ok (251, params a j c out) w' := fun w' h => meth148QueryRandLength h
  clear hg hpp
  clear hc hF hc3 hc4 hP hD
  have HW := Lib.hid hW; clear hW
  go_enter Tryz.func191, Tryz.ntmps191
  go_wp2_with fail
  go_region_held3 (fun w' => w'.cell? ⟨kb, 0, none⟩ = some (.pointer (some ⟨fb, 0, none⟩)) ∧ w'.cell? ⟨kb, 203, none⟩ = some (.int .u64 u3) ∧ w'.cell? ⟨kb, 204, none⟩ = some (.int .u8 u4) ∧ Par 1 fb a j c out w') (first | with_reducible exact HT.out _ (HW.out.transNo hE8) | with_reducible exact HT.out _ (HW.out.transNo hE7) | with_reducible exact HT.out _ (HW.out.transNo hE6) | with_reducible exact HT.out _ (HW.out.transNo hE5) | with_reducible exact HT.out _ (HW.out.transNo hE4) | with_reducible exact HT.out _ (HW.out.transNo hE3) | with_reducible exact HT.out _ (HW.out.transNo hE2) | with_reducible exact HT.out _ (HW.out.transNo hE1) | with_reducible exact HT0.out | exact HT.out _ (((((((((((HW.out.transNo hE8).set (.inl (Nat.le_refl _)) _).set (.inl (Nat.le_refl _)) _).set (.inl (Nat.le_refl _)) _).set (.inl (Nat.le_refl _)) _).set (.inl (Nat.le_refl _)) _).set (.inl (Nat.le_refl _)) _).set (.inl (Nat.le_refl _)) _).set (.inl (Nat.le_refl _)) _).set (.inl (Nat.le_refl _)) _).set (.inl (Nat.le_refl _)) _))
    (first
      | (go_at_call 246; refine (parJ _ _ _ _ _).mono ?_; rintro e w1 ⟨rfl, hx⟩; have hE1 := ext_undrew hx; clear hx)
      | (go_at_call 247; refine (parM _ _ _ _ _).mono ?_; rintro e w2 ⟨rfl, hx⟩; have hE2 := hE1.transNo hx; clear hx)
      | (go_at_call 248; refine (parO _ _ _ _ _).mono ?_; rintro e w3 ⟨rfl, hx⟩; have hE3 := hE2.transNo hx; clear hx)
      | (go_at_call 245; refine (parE _ _ _ _ _).mono ?_; rintro e w4 ⟨rfl, hx⟩; have hE4 := hE3.transNo hx; clear hx)
      | (go_at_call 251; refine (parQ _ _ _ _ _).mono ?_; rintro e w5 ⟨⟨v5, rfl⟩, hx⟩; have hE5 := hE4.transNo hx; clear hx)
      | (go_at_call 265; refine (Hprove.out _ hE5).mono ?_; rintro e w6 ⟨⟨v6, rfl⟩, hx⟩; have hE6 := hE5.transNo hx; clear hx)
      | (go_at_call 264; refine (Hproof.out _ hE6).mono ?_; rintro e w7 ⟨⟨v7, rfl⟩, hx⟩; have hE7 := hE6.transNo hx; clear hx)
      | (go_at_call 266; refine (Hveri.out _ hE7).mono ?_; rintro e w8 ⟨⟨v8, rfl⟩, hx⟩; have hE8 := hE7.transNo hx; clear hx; have hb8 := hE8.blkNo (blk_new _ _); have c0 : w8.cell? ⟨w.heap.size, 0, none⟩ = some (.int .u64 0) := blk_cell hb8 0; have f0 := blk_frz hb8 0; have c1 : w8.cell? ⟨w.heap.size, 1, none⟩ = some (.int .u64 0) := blk_cell hb8 1; have f1 := blk_frz hb8 1; have c2 : w8.cell? ⟨w.heap.size, 2, none⟩ = some (.int .u64 0) := blk_cell hb8 2; have f2 := blk_frz hb8 2; have c3 : w8.cell? ⟨w.heap.size, 3, none⟩ = some (.int .u64 0) := blk_cell hb8 3; have f3 := blk_frz hb8 3; have c4 : w8.cell? ⟨w.heap.size, 4, none⟩ = some (.int .u64 0) := blk_cell hb8 4; have f4 := blk_frz hb8 4; have c5 : w8.cell? ⟨w.heap.size, 5, none⟩ = some (.int .u64 0) := blk_cell hb8 5; have f5 := blk_frz hb8 5; have c6 : w8.cell? ⟨w.heap.size, 6, none⟩ = some (.int .u64 0) := blk_cell hb8 6; have f6 := blk_frz hb8 6; have c7 : w8.cell? ⟨w.heap.size, 7, none⟩ = some (.int .u64 0) := blk_cell hb8 7; have f7 := blk_frz hb8 7; have c8 : w8.cell? ⟨w.heap.size, 8, none⟩ = some (.int .u64 0) := blk_cell hb8 8; have f8 := blk_frz hb8 8; have c9 : w8.cell? ⟨w.heap.size, 9, none⟩ = some (.int .u8 0) := blk_cell hb8 9; have f9 := blk_frz hb8 9; have HB8 := Lib.hid hb8; clear hb8))
  go_wp2
  have hb8 : Big w.heap.size 76 10 w8 := ⟨_, HB8.out, rfl, all10⟩
  have hx8 : Ext w w8 No := HW.out.transNo hE8
  have le := Nat.le_refl w.heap.size
  have hB := (((((((((hb8.set 0 (v := .int .u64 (j : Nat)) rfl).set 1 (v := .int .u64 (a : Nat)) rfl).set 2 (v := .int .u64 (out : Nat)) rfl).set 3 (v := .int .u64 (c : Nat)) rfl).set 4 (v := .int .u64 v5) rfl).set 5 (v := .int .u64 v6) rfl).set 6 (v := .int .u64 v7) rfl).set 7 (v := .int .u64 v8) rfl).set 8 (v := .int .u64 u3) rfl).set 9 (v := .int .u8 u4) rfl
  have h2 : ((w8.setCell ⟨w.heap.size, 0, none⟩ (.int .u64 (j : Nat))).setCell ⟨w.heap.size, 1, none⟩ (.int .u64 (a : Nat))).cell? ⟨w.heap.size, 2, none⟩ = some (.int .u64 0) := cell_set_ne (cell_set_ne c2 (by decide)) (by decide)
  have h3 := cell_set_ne (j := 9) (u := .int .u8 u4) (cell_set_ne (j := 8) (u := .int .u64 u3) (cell_set_ne (j := 7) (u := .int .u64 v8) (cell_set_ne (j := 6) (u := .int .u64 v7) (cell_set_ne (j := 5) (u := .int .u64 v6) (cell_set_ne (j := 4) (u := .int .u64 v5) (cell_set_ne (j := 3) (u := .int .u64 (c : Nat)) (World.cell?_setCell_same _ _ (.int .u64 (out : Nat)) h2) (by decide)) (by decide)) (by decide)) (by decide)) (by decide)) (by decide)) (by decide)
  refine bodyPost_big (fn := Tryz.f191) rfl rfl rfl hB Tryz.underlying76 rfl info76 (fun cs k1 k2 k3 => ⟨⟨cs, rfl, k1, k2, (k3 2 (by decide)).trans h3⟩, ?_⟩)
  exact (((((((((hx8.set (.inl le) _).set (.inl le) _).set (.inl le) _).set (.inl le) _).set (.inl le) _).set (.inl le) _).set (.inl le) _).set (.inl le) _).set (.inl le) _).set (.inl le) _
end Go.Proofs.YtlmmdldjfpdcfaaGreatDoor
