/-
  FnExactAdd: the walk.
-/
import Derived.Test.YtlmmdldjfpdcfaaGreatDoorM32
namespace Go.Proofs.YtlmmdldjfpdcfaaGreatDoor
open Go.RowKit

theorem eqNil (w : World) : Calls Tryz.prog 12 #[.slice none 0 0, .slice none 0 0] w fun e w' => e = .returned (.bool true) ∧ Ext w w' No := by
  go_enter Tryz.func12, Tryz.ntmps12
  go_wp2
  go_loopw [13] (fun i wr => i = .int .i64 0 ∧ w = wr) (fun _ _ => 0)
  case atStart => exact ⟨rfl, rfl⟩
  case round =>
    obtain ⟨rfl, rfl⟩ := hrel
    go_wp2
    go_ret
    exact ⟨rfl, Ext.refl _ _⟩
/-- The answers of two such sums. -/
theorem Added.parts {w w' : World} {sz p out : Nat} {tom : Nat → Nat} {by' : Nat → List Nat} {ls : List (List Nat)} {e : Ending} (h : Added w sz p out tom by' ls e w') (hby : ∀ v, (by' v).length = sz) :
    (∃ g c, (∀ i, i < ls.length → good sz p out (ls.getD i [])) ∧ e = .returned (.tuple #[.slice (some ⟨g, 0, none⟩) (out * sz) c, .bool true]) ∧ (flat by' (sumN p sz out tom ls)).length = out * sz ∧ ∀ i, i < out * sz → w'.cell? ⟨g, 0 + i, none⟩ = some (.int .u8 ((flat by' (sumN p sz out tom ls)).getD i 0 : Nat))) ∨
      ((¬ ∀ i, i < ls.length → good sz p out (ls.getD i [])) ∧ e = .returned (.tuple #[.slice none 0 0, .bool false])) := by
  by_cases hg : ∀ i, i < ls.length → good sz p out (ls.getD i [])
  · obtain ⟨g, c, he, -, hc⟩ := h.2.1 hg
    exact .inl ⟨g, c, hg, he, by rw [flat_len _ sz hby, sumN_len], fun i hi => by rw [Nat.zero_add]; exact hc i hi⟩
  · exact .inr ⟨hg, h.2.2 hg⟩

set_option maxRecDepth 100000 in
set_option maxHeartbeats 4000000 in
theorem exactG {k s n b c m L C sz p out : Nat} {tom : Nat → Nat} {by' : Nat → List Nat} {a : Option Addr} {u : Value} {ls : List (List Nat)} {w : World} (hby : ∀ v, (by' v).length = sz) (hsz : out * sz ≤ 100000)
    (hL : L ≤ 4096) (hsm : s ≤ 255 ∧ n ≤ 16 ∧ b ≤ 80 ∧ c ≤ 16) (hk : kindI k s n b c m L) (hS : IsBs w u ls) (hN : ls.length ≤ 300)
    (hI : ∀ w', Ext w w' No → Calls Tryz.prog 10 #[parV k s n b c m (.slice a L C), u] w' (Added w' sz p out tom by' ls))
    (hP : ∀ w', Ext w w' No → Calls Tryz.prog 11 #[parV k s n b c m (.slice a L C), u] w' (Added w' sz p out id (bytesL sz) ls))
    (hlaw : (∀ i, i < ls.length → good sz p out (ls.getD i [])) → flat by' (sumN p sz out tom ls) = flat (bytesL sz) (sumN p sz out id ls)) :
    Calls Tryz.prog 3 #[parV k s n b c m (.slice a L C), u] w fun e w' => e = .returned (.bool true) ∧ Ext w w' No := by
  have h6 := fun w => fits1 (k := k) (s := s) (n := n) (b := b) (c := c) (m := m) (a := a) (L := L) (C := C) w
  rw [decide_eq_true (by omega : L ≤ 2147483647)] at h6
  have h8 := fun w => isSmall (k := k) (s := s) (n := n) (b := b) (c := c) (m := m) (a := a) (L := L) (C := C) w
  rw [decide_eq_true (by omega : (0 : Int) ≤ (s : Int) ∧ (s : Int) ≤ 255 ∧ (0 : Int) ≤ (n : Int) ∧ (n : Int) ≤ 16 ∧ (0 : Int) ≤ (b : Int) ∧ (b : Int) ≤ 80 ∧ (0 : Int) ≤ (c : Int) ∧ (c : Int) ≤ 16 ∧ L ≤ 4096)] at h8
  have h9 := fun w => kind_true (a := a) (C := C) hk w
  have h7 := fun w' (hx : Ext w w' No) => fits2 (hS.ext hx)
  obtain ⟨la, lc, rfl, -⟩ := hS
  have hx0 : ∀ w', Ext w w' No → Ext w w' No := fun _ h => h
  have H6 := Lib.hid h6; clear h6
  have H7 := Lib.hid h7; clear h7
  have H8 := Lib.hid h8; clear h8
  have H9 := Lib.hid h9; clear h9
  have HI := Lib.hid hI; clear hI
  have HP := Lib.hid hP; clear hP
  have HLAW := Lib.hid hlaw; clear hlaw
  have HBY := Lib.hid hby; clear hby
  clear hk hsm hL
  have d1 : decide ((300 : Int) < (ls.length : Int)) = false := decide_eq_false (by omega)
  have d2 : decide (300 < ls.length) = false := decide_eq_false (by omega)
  unfold parI at *
  unfold parV at *
  by_cases hgd : ∀ i, i < ls.length → good sz p out (ls.getD i [])
  · have HGD := Lib.hid hgd; clear hgd
    go_enter Tryz.func3, Tryz.ntmps3
    go_wp2_with (first
    | (go_at_call 6; refine (H6.out _).mono ?_; rintro e w1 ⟨rfl, hx1⟩; have q := hx1.blkNo (blk_new _ _); have c0 : w1.cell? ⟨w.heap.size, 0, none⟩ = some (.int .i64 (k : Nat)) := blk_cell q 0; have c1 : w1.cell? ⟨w.heap.size, 1, none⟩ = some (.int .i64 (s : Nat)) := blk_cell q 1; have c2 : w1.cell? ⟨w.heap.size, 2, none⟩ = some (.int .i64 (n : Nat)) := blk_cell q 2; have c3 : w1.cell? ⟨w.heap.size, 3, none⟩ = some (.int .i64 (b : Nat)) := blk_cell q 3; have c4 : w1.cell? ⟨w.heap.size, 4, none⟩ = some (.int .i64 (c : Nat)) := blk_cell q 4; have c5 : w1.cell? ⟨w.heap.size, 5, none⟩ = some (.int .u64 (m : Nat)) := blk_cell q 5; have c6 : w1.cell? ⟨w.heap.size, 6, none⟩ = some (.slice a L C) := blk_cell q 6; have HQ1 := Lib.hid q; clear q; have hx01 := ((Ext.refl w No).alloc _).transNo hx1; have HX1 := Lib.hid hx01; clear hx1 hx01)
    | (go_at_call 7; refine (H7.out _ HX1.out).mono ?_; rintro e w2 ⟨⟨r, rfl⟩, rfl⟩)
    | (go_at_call 8; refine (H8.out _).mono ?_; rintro e w2 ⟨rfl, hx2⟩; clear c0 c1 c2 c3 c4 c5 c6; have q := hx2.blkNo HQ1.out; have c0 : w2.cell? ⟨w.heap.size, 0, none⟩ = some (.int .i64 (k : Nat)) := blk_cell q 0; have c1 : w2.cell? ⟨w.heap.size, 1, none⟩ = some (.int .i64 (s : Nat)) := blk_cell q 1; have c2 : w2.cell? ⟨w.heap.size, 2, none⟩ = some (.int .i64 (n : Nat)) := blk_cell q 2; have c3 : w2.cell? ⟨w.heap.size, 3, none⟩ = some (.int .i64 (b : Nat)) := blk_cell q 3; have c4 : w2.cell? ⟨w.heap.size, 4, none⟩ = some (.int .i64 (c : Nat)) := blk_cell q 4; have c5 : w2.cell? ⟨w.heap.size, 5, none⟩ = some (.int .u64 (m : Nat)) := blk_cell q 5; have c6 : w2.cell? ⟨w.heap.size, 6, none⟩ = some (.slice a L C) := blk_cell q 6; have HQ2 := Lib.hid q; clear q; have hx02 := HX1.out.transNo hx2; have HX2 := Lib.hid hx02; clear hx2 hx02)
    | (go_at_call 9; refine (H9.out _).mono ?_; rintro e w3 ⟨rfl, hx3⟩; clear c0 c1 c2 c3 c4 c5 c6; have q := hx3.blkNo HQ2.out; have c0 : w3.cell? ⟨w.heap.size, 0, none⟩ = some (.int .i64 (k : Nat)) := blk_cell q 0; have c1 : w3.cell? ⟨w.heap.size, 1, none⟩ = some (.int .i64 (s : Nat)) := blk_cell q 1; have c2 : w3.cell? ⟨w.heap.size, 2, none⟩ = some (.int .i64 (n : Nat)) := blk_cell q 2; have c3 : w3.cell? ⟨w.heap.size, 3, none⟩ = some (.int .i64 (b : Nat)) := blk_cell q 3; have c4 : w3.cell? ⟨w.heap.size, 4, none⟩ = some (.int .i64 (c : Nat)) := blk_cell q 4; have c5 : w3.cell? ⟨w.heap.size, 5, none⟩ = some (.int .u64 (m : Nat)) := blk_cell q 5; have c6 : w3.cell? ⟨w.heap.size, 6, none⟩ = some (.slice a L C) := blk_cell q 6; have HQ3 := Lib.hid q; clear q; have hx03 := HX2.out.transNo hx3; have HX3 := Lib.hid hx03; clear hx3 hx03)
    | (go_at_call 10; refine (HI.out _ HX3.out).mono ?_; intro e w4 hA; clear c0 c1 c2 c3 c4 c5 c6; obtain ⟨g, gc, rfl, -, hc⟩ := hA.2.1 HGD.out; have q := hA.1.blkNo HQ3.out; have c0 : w4.cell? ⟨w.heap.size, 0, none⟩ = some (.int .i64 (k : Nat)) := blk_cell q 0; have c1 : w4.cell? ⟨w.heap.size, 1, none⟩ = some (.int .i64 (s : Nat)) := blk_cell q 1; have c2 : w4.cell? ⟨w.heap.size, 2, none⟩ = some (.int .i64 (n : Nat)) := blk_cell q 2; have c3 : w4.cell? ⟨w.heap.size, 3, none⟩ = some (.int .i64 (b : Nat)) := blk_cell q 3; have c4 : w4.cell? ⟨w.heap.size, 4, none⟩ = some (.int .i64 (c : Nat)) := blk_cell q 4; have c5 : w4.cell? ⟨w.heap.size, 5, none⟩ = some (.int .u64 (m : Nat)) := blk_cell q 5; have c6 : w4.cell? ⟨w.heap.size, 6, none⟩ = some (.slice a L C) := blk_cell q 6; clear q; have hx04 := HX3.out.transNo hA.1; have HX4 := Lib.hid hx04; have HC4 := Lib.hid hc; clear hA hx04 hc)
    | (go_at_call 11; refine (HP.out _ HX4.out).mono ?_; intro e w5 hA; clear c0 c1 c2 c3 c4 c5 c6; obtain ⟨g2, gc2, rfl, -, hc⟩ := hA.2.1 HGD.out; have HA5 := Lib.hid hA.1; have hx05 := HX4.out.transNo hA.1; have HX5 := Lib.hid hx05; have HC5 := Lib.hid hc; clear hA hx05 hc)
    | (go_at_call 12; refine (eqBytes (l1 := flat by' (sumN p sz out tom ls)) (l2 := flat (bytesL sz) (sumN p sz out id ls)) (by rw [flat_len _ sz HBY.out, sumN_len]) (by rw [flat_len _ sz (fun v => bytesL_len sz v), sumN_len]) hsz (fun i hi => by rw [Nat.zero_add]; exact HA5.out.cellNo (HC4.out i hi)) (fun i hi => by rw [Nat.zero_add]; exact HC5.out i hi)).mono ?_; rintro e w6 ⟨rfl, hx6⟩; rw [decide_eq_true (HLAW.out HGD.out)]; have hx06 := HX5.out.transNo hx6; have HX6 := Lib.hid hx06; clear hx6 hx06))
    all_goals
      go_ret
      first
        | exact ⟨rfl, HX6.out⟩
        | exact ⟨rfl, HX1.out⟩
  · have HGD := Lib.hid hgd; clear hgd
    go_enter Tryz.func3, Tryz.ntmps3
    go_wp2_with (first
    | (go_at_call 6; refine (H6.out _).mono ?_; rintro e w1 ⟨rfl, hx1⟩; have q := hx1.blkNo (blk_new _ _); have c0 : w1.cell? ⟨w.heap.size, 0, none⟩ = some (.int .i64 (k : Nat)) := blk_cell q 0; have c1 : w1.cell? ⟨w.heap.size, 1, none⟩ = some (.int .i64 (s : Nat)) := blk_cell q 1; have c2 : w1.cell? ⟨w.heap.size, 2, none⟩ = some (.int .i64 (n : Nat)) := blk_cell q 2; have c3 : w1.cell? ⟨w.heap.size, 3, none⟩ = some (.int .i64 (b : Nat)) := blk_cell q 3; have c4 : w1.cell? ⟨w.heap.size, 4, none⟩ = some (.int .i64 (c : Nat)) := blk_cell q 4; have c5 : w1.cell? ⟨w.heap.size, 5, none⟩ = some (.int .u64 (m : Nat)) := blk_cell q 5; have c6 : w1.cell? ⟨w.heap.size, 6, none⟩ = some (.slice a L C) := blk_cell q 6; have HQ1 := Lib.hid q; clear q; have hx01 := ((Ext.refl w No).alloc _).transNo hx1; have HX1 := Lib.hid hx01; clear hx1 hx01)
    | (go_at_call 7; refine (H7.out _ HX1.out).mono ?_; rintro e w2 ⟨⟨r, rfl⟩, rfl⟩)
    | (go_at_call 8; refine (H8.out _).mono ?_; rintro e w2 ⟨rfl, hx2⟩; clear c0 c1 c2 c3 c4 c5 c6; have q := hx2.blkNo HQ1.out; have c0 : w2.cell? ⟨w.heap.size, 0, none⟩ = some (.int .i64 (k : Nat)) := blk_cell q 0; have c1 : w2.cell? ⟨w.heap.size, 1, none⟩ = some (.int .i64 (s : Nat)) := blk_cell q 1; have c2 : w2.cell? ⟨w.heap.size, 2, none⟩ = some (.int .i64 (n : Nat)) := blk_cell q 2; have c3 : w2.cell? ⟨w.heap.size, 3, none⟩ = some (.int .i64 (b : Nat)) := blk_cell q 3; have c4 : w2.cell? ⟨w.heap.size, 4, none⟩ = some (.int .i64 (c : Nat)) := blk_cell q 4; have c5 : w2.cell? ⟨w.heap.size, 5, none⟩ = some (.int .u64 (m : Nat)) := blk_cell q 5; have c6 : w2.cell? ⟨w.heap.size, 6, none⟩ = some (.slice a L C) := blk_cell q 6; have HQ2 := Lib.hid q; clear q; have hx02 := HX1.out.transNo hx2; have HX2 := Lib.hid hx02; clear hx2 hx02)
    | (go_at_call 9; refine (H9.out _).mono ?_; rintro e w3 ⟨rfl, hx3⟩; clear c0 c1 c2 c3 c4 c5 c6; have q := hx3.blkNo HQ2.out; have c0 : w3.cell? ⟨w.heap.size, 0, none⟩ = some (.int .i64 (k : Nat)) := blk_cell q 0; have c1 : w3.cell? ⟨w.heap.size, 1, none⟩ = some (.int .i64 (s : Nat)) := blk_cell q 1; have c2 : w3.cell? ⟨w.heap.size, 2, none⟩ = some (.int .i64 (n : Nat)) := blk_cell q 2; have c3 : w3.cell? ⟨w.heap.size, 3, none⟩ = some (.int .i64 (b : Nat)) := blk_cell q 3; have c4 : w3.cell? ⟨w.heap.size, 4, none⟩ = some (.int .i64 (c : Nat)) := blk_cell q 4; have c5 : w3.cell? ⟨w.heap.size, 5, none⟩ = some (.int .u64 (m : Nat)) := blk_cell q 5; have c6 : w3.cell? ⟨w.heap.size, 6, none⟩ = some (.slice a L C) := blk_cell q 6; have HQ3 := Lib.hid q; clear q; have hx03 := HX2.out.transNo hx3; have HX3 := Lib.hid hx03; clear hx3 hx03)
    | (go_at_call 10; refine (HI.out _ HX3.out).mono ?_; intro e w4 hA; clear c0 c1 c2 c3 c4 c5 c6; obtain rfl := hA.2.2 HGD.out; have q := hA.1.blkNo HQ3.out; have c0 : w4.cell? ⟨w.heap.size, 0, none⟩ = some (.int .i64 (k : Nat)) := blk_cell q 0; have c1 : w4.cell? ⟨w.heap.size, 1, none⟩ = some (.int .i64 (s : Nat)) := blk_cell q 1; have c2 : w4.cell? ⟨w.heap.size, 2, none⟩ = some (.int .i64 (n : Nat)) := blk_cell q 2; have c3 : w4.cell? ⟨w.heap.size, 3, none⟩ = some (.int .i64 (b : Nat)) := blk_cell q 3; have c4 : w4.cell? ⟨w.heap.size, 4, none⟩ = some (.int .i64 (c : Nat)) := blk_cell q 4; have c5 : w4.cell? ⟨w.heap.size, 5, none⟩ = some (.int .u64 (m : Nat)) := blk_cell q 5; have c6 : w4.cell? ⟨w.heap.size, 6, none⟩ = some (.slice a L C) := blk_cell q 6; clear q; have hx04 := HX3.out.transNo hA.1; have HX4 := Lib.hid hx04; clear hA hx04)
    | (go_at_call 11; refine (HP.out _ HX4.out).mono ?_; intro e w5 hA; clear c0 c1 c2 c3 c4 c5 c6; obtain rfl := hA.2.2 HGD.out; have hx05 := HX4.out.transNo hA.1; have HX5 := Lib.hid hx05; clear hA hx05)
    | (go_at_call 12; refine (eqNil _).mono ?_; rintro e w6 ⟨rfl, hx6⟩; have hx06 := HX5.out.transNo hx6; have HX6 := Lib.hid hx06; clear hx6 hx06))
    all_goals
      go_ret
      first
        | exact ⟨rfl, HX6.out⟩
        | exact ⟨rfl, HX1.out⟩
end Go.Proofs.YtlmmdldjfpdcfaaGreatDoor
