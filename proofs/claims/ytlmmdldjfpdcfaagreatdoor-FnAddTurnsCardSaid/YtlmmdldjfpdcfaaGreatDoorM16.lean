/-
  math.NextPow2: some two numbers.
-/
import Derived.Test.YtlmmdldjfpdcfaaGreatDoorM11
import Derived.Test.YtlmmdldjfpdcfaaGreatDoorAggA
namespace Go.Proofs.YtlmmdldjfpdcfaaGreatDoor
open Go.RowKit

theorem onesCount64 (x : Nat) (w : World) : Calls Tryz.prog 259 #[.int .u64 (x : Nat)] w fun e w' => (∃ v : Int, e = .returned (.int .i64 v)) ∧ w = w' := by
  go_enter Tryz.func259, Tryz.ntmps259
  go_wp2
  go_ret
  exact ⟨⟨_, rfl⟩, rfl⟩
theorem onesCount (x : Nat) (w : World) : Calls Tryz.prog 255 #[.int .u64 (x : Nat)] w fun e w' => (∃ v : Int, e = .returned (.int .i64 v)) ∧ w = w' := by
  go_enter Tryz.func255, Tryz.ntmps255
  go_wp2_with (go_at_call 259; refine (onesCount64 x _).mono ?_; rintro e w' ⟨⟨v, rfl⟩, rfl⟩)
  go_ret
  exact ⟨⟨_, rfl⟩, rfl⟩
theorem bitsLen (x : Nat) (hx : x < 18446744073709551616) (w : World) : Calls Tryz.prog 257 #[.int .u64 (x : Nat)] w fun e w' => (∃ k : Nat, e = .returned (.int .i64 k) ∧ k ≤ 64) ∧ w = w' := by
  have HX := Lib.hid hx; clear hx
  go_enter Tryz.func257, Tryz.ntmps257
  go_wp2_with (go_at_call 39; refine (len64 x HX.out _).mono ?_; rintro e w' ⟨⟨k, rfl, -, hk, -⟩, rfl⟩)
  go_ret
  exact ⟨⟨k, rfl, hk⟩, rfl⟩

/-- The table deBruijn64tab: some bytes. -/
def Deb (w : World) : Prop := ∀ i, i < 64 → ∃ x : Int, w.cell? ⟨20, i, none⟩ = some (.int .u8 x)
theorem Deb.extNo {w w' : World} (h : Deb w) (hx : Ext w w' No) : Deb w' := fun i hi => by
  obtain ⟨x, hc⟩ := h i hi
  exact ⟨x, hx.cellNo hc⟩
theorem trail64 (x : Nat) (w : World) (hD : Deb w) : Calls Tryz.prog 261 #[.int .u64 (x : Nat)] w fun e w' => (∃ v : Int, e = .returned (.int .i64 v)) ∧ w = w' := by
  have HD := Lib.hid hD; clear hD
  by_cases h0 : x = 0
  · subst h0
    go_enter Tryz.func261, Tryz.ntmps261
    go_wp2
    go_ret
    exact ⟨⟨_, rfl⟩, rfl⟩
  · have d0 : ((x : Int) == 0) = false := by simp; omega
    have H0 := Lib.hid h0; clear h0
    go_enter Tryz.func261, Tryz.ntmps261
    go_wp2_with ((fail_if_success (have := hi2)); (with_reducible refine at_dst 11 ?_); generalize hy : IntKind.u64.wrap (bits BinOp.and _ _ _ * _) = y; have hb : 0 ≤ y ∧ y < 18446744073709551616 := (by rw [← hy, IntKind.wrap_u64]; omega); clear hy; generalize hq : y / 288230376151711744 = q; obtain ⟨i, rfl⟩ := Int.eq_ofNat_of_zero_le (a := q) (by omega); have hi : i < 64 := (by omega); obtain ⟨v, hc⟩ := HD.out i hi; have hi1 : (0 : Int) ≤ (i : Int) := (by omega); have hi2 : (i : Int) < 64 := (by omega); clear hq hb; have H9 := Lib.hid hi; clear hi)
    go_ret
    exact ⟨⟨_, rfl⟩, rfl⟩
theorem trail (x : Nat) (w : World) (hD : Deb w) : Calls Tryz.prog 256 #[.int .u64 (x : Nat)] w fun e w' => (∃ v : Int, e = .returned (.int .i64 v)) ∧ w = w' := by
  have HD := Lib.hid hD; clear hD
  go_enter Tryz.func256, Tryz.ntmps256
  go_wp2_with (go_at_call 261; refine (trail64 x _ HD.out).mono ?_; rintro e w' ⟨⟨v, rfl⟩, rfl⟩)
  go_ret
  exact ⟨⟨_, rfl⟩, rfl⟩
theorem nextPow2 (x : Nat) (hx : x < 18446744073709551616) (w : World) (hD : Deb w) : Calls Tryz.prog 254 #[.int .u64 (x : Nat)] w fun e w' => (∃ u v : Int, e = .returned (.tuple #[.int .u64 u, .int .u64 v])) ∧ w = w' := by
  have HD := Lib.hid hD; clear hD
  have HX := Lib.hid hx; clear hx
  go_enter Tryz.func254, Tryz.ntmps254
  go_wp2_with (first
    | (go_at_call 255; refine (onesCount x _).mono ?_; rintro e w' ⟨⟨v1, rfl⟩, rfl⟩; rcases Bool.eq_false_or_eq_true (v1 == 1) with d1 | d1)
    | (go_at_call 256; refine (trail x _ HD.out).mono ?_; rintro e w' ⟨⟨v2, rfl⟩, rfl⟩)
    | (go_at_call 257; refine (bitsLen x HX.out _).mono ?_; rintro e w' ⟨⟨k, rfl, hk⟩, rfl⟩))
  all_goals (go_ret2; exact ⟨⟨_, _, rfl⟩, rfl⟩)
end Go.Proofs.YtlmmdldjfpdcfaaGreatDoor

/-
  The gadgets' Arity and Degree.
-/
namespace Go.Proofs.YtlmmdldjfpdcfaaGreatDoor
open Go.RowKit

theorem ar200 (w : World) : Calls Tryz.prog 272 #[.agg #[]] w fun e w' => (∃ v : Int, e = .returned (.int .u64 v)) ∧ Ext w w' No := by
  go_enter Tryz.func272, Tryz.ntmps272
  go_wp2
  go_ret
  exact ⟨⟨_, rfl⟩, (Ext.refl w No).alloc _⟩
theorem de200 (w : World) : Calls Tryz.prog 273 #[.agg #[]] w fun e w' => (∃ v : Int, e = .returned (.int .u64 v)) ∧ Ext w w' No := by
  go_enter Tryz.func273, Tryz.ntmps273
  go_wp2
  go_ret
  exact ⟨⟨_, rfl⟩, (Ext.refl w No).alloc _⟩
theorem ar209 (w : World) : Calls Tryz.prog 275 #[.agg #[]] w fun e w' => (∃ v : Int, e = .returned (.int .u64 v)) ∧ Ext w w' No := by
  go_enter Tryz.func275, Tryz.ntmps275
  go_wp2
  go_ret
  exact ⟨⟨_, rfl⟩, (Ext.refl w No).alloc _⟩
theorem de209 (w : World) : Calls Tryz.prog 276 #[.agg #[]] w fun e w' => (∃ v : Int, e = .returned (.int .u64 v)) ∧ Ext w w' No := by
  go_enter Tryz.func276, Tryz.ntmps276
  go_wp2
  go_ret
  exact ⟨⟨_, rfl⟩, (Ext.refl w No).alloc _⟩
theorem cells232 : (Tryz.prog.cellsOf 232 == 0) = false ∧ Tryz.prog.cellsOf 232 = 1 ∧ byteOfCell Tryz.prog Tryz.prog.depth 232 0 = some 0 := ⟨by kernel_rfl, by kernel_rfl, by kernel_rfl⟩
theorem part232 (w : World) (cs : Array Value) (h : cs.size = 1) : (partAt ⟨w.heap.size, 0, none⟩ 0 0).run Tryz.prog (w.alloc (.cells cs 232)) = .ok ⟨w.heap.size, 0, none⟩ (w.alloc (.cells cs 232)) :=
  partAtS (shape_of_blk (blk_new _ _) h) cells232.1 (by rw [cells232.2.1]; exact cells232.2.2)
theorem de232 (q : Nat) (w : World) : Calls Tryz.prog 280 #[.agg #[.int .u64 (q : Nat)]] w fun e w' => (∃ v : Int, e = .returned (.int .u64 v)) ∧ Ext w w' No := by
  have hp := part232 w #[.int .u64 (q : Nat)] rfl
  go_enter Tryz.func280, Tryz.ntmps280
  go_wp2_with (go_at_call 273; refine (de200 _).mono ?_; rintro e w' ⟨⟨v, rfl⟩, hx⟩)
  go_ret
  exact ⟨⟨_, rfl⟩, ((Ext.refl w No).alloc _).transNo hx⟩
theorem ext_undrew {w w' : World} {S : Nat → Prop} (h : Ext w.drew w' S) : Ext w w' S := ⟨h.os, h.tape, h.output, h.size, h.block⟩
theorem shape_extNo {w w' : World} {b n : Nat} {t : TypeId} (h : w.shape? b = some (t, n)) (hx : Ext w w' No) : w'.shape? b = some (t, n) := by
  unfold World.shape? at h ⊢
  cases hb : w.heap[b]? with
  | none => rw [hb] at h; simp at h
  | some o => rw [hx.blkNo hb]; rw [hb] at h; exact h
set_option maxRecDepth 100000 in
theorem ar232 (q : Nat) (w : World) : Calls Tryz.prog 279 #[.agg #[.int .u64 (q : Nat)]] w fun e w' => (∃ v : Int, e = .returned (.int .u64 v)) ∧ Ext w w' No := by
  have hsh : ∀ w', Ext (w.alloc (.cells #[.int .u64 (q : Nat)] 232)) w' No → (partAt ⟨w.heap.size, 0, none⟩ 0 0).run Tryz.prog w' = .ok ⟨w.heap.size, 0, none⟩ w' := fun w' hx =>
    partAtS (shape_extNo (shape_of_blk (n := 1) (blk_new _ _) rfl) hx) cells232.1 (by rw [cells232.2.1]; exact cells232.2.2)
  have hc : ∀ w', Ext (w.alloc (.cells #[.int .u64 (q : Nat)] 232)) w' No → w'.cell? ⟨w.heap.size, 0, none⟩ = some (.int .u64 (q : Nat)) := fun w' hx => blk_cell (hx.blkNo (blk_new _ _)) 0
  have HS := Lib.hid hsh; clear hsh
  have HC := Lib.hid hc; clear hc
  go_enter Tryz.func279, Tryz.ntmps279
  go_wp2_with fail
  go_region_held3 (fun w' => w'.cell? ⟨w.heap.size, 0, none⟩ = some (.int .u64 (q : Nat)) ∧ (partAt ⟨w.heap.size, 0, none⟩ 0 0).run Tryz.prog w' = .ok ⟨w.heap.size, 0, none⟩ w' ∧ Ext (w.alloc (.cells #[.int .u64 (q : Nat)] 232)) w' No) (first | exact ⟨HC.out _ (Ext.refl _ _).drew, HS.out _ (Ext.refl _ _).drew, (Ext.refl _ _).drew⟩ | exact ⟨HC.out _ (ext_undrew hx), HS.out _ (ext_undrew hx), ext_undrew hx⟩)
    (first | (go_at_call 272; refine (ar200 _).mono ?_; rintro e w' ⟨⟨v, rfl⟩, hx⟩))
  go_wp2
  go_ret
  exact ⟨⟨_, rfl⟩, ((Ext.refl w No).alloc _).transNo (ext_undrew hx)⟩
end Go.Proofs.YtlmmdldjfpdcfaaGreatDoor
