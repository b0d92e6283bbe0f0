/-
  fp128's order (Fp.Order), a sum told against it (aboveSum).
-/
import Derived.Test.YtlmmdldjfpdcfaaGreatDoorM11
namespace Go.Proofs.YtlmmdldjfpdcfaaGreatDoor
open Go.RowKit

theorem blk_new3 (w : World) (A B C : Obj) : (((w.alloc A).alloc B).alloc C).heap[w.heap.size + 2]? = some C := by
  have h := blk_new ((w.alloc A).alloc B) C
  simpa using h
theorem order128 {v : Value} (w : World) (hv : v = .agg #[.int .u64 0, .int .u64 0]) : Calls Tryz.prog 80 #[v] w fun e w' => ∃ b, e = .returned (.slice (some ⟨b, 0, none⟩) 16 16) ∧ Ext w w' No ∧ w'.heap[b]? = some (.cells (beS 16) 271 (0, 0)) := by
  subst hv
  go_enter Tryz.func80, Tryz.ntmps80
  go_wp2_with (go_at_call 99; refine (putBE (db := w.heap.size + 1) (sb := w.heap.size + 2) (t := 22) (blk_alloc (heap_alloc2_new w _ _) _) (blk_new3 w _ _ _) (by omega)).mono ?_; rintro e w1 ⟨rfl, hx1, hb1⟩; have HX1 := Lib.hid hx1; clear hx1; have HB1 := Lib.hid hb1; clear hb1)
  go_ret
  exact ⟨_, rfl, ((((Ext.refl w No).alloc _).alloc _).alloc _).trans HX1.out (fun i hi h => by omega), HB1.out⟩

def hiA (k : Nat) : Int := [0, 255, 65535, 16777215, 4294967295, 1099511627775, 281474976710655, 72057594037927935, 18446744073709551588, 18446744073709551588, 18446744073709551588, 18446744073709551588, 18446744073709551588, 18446744073709551588, 18446744073709551588, 18446744073709551588, 18446744073709551588].getD k 0
def loA (k : Nat) : Int := [0, 0, 0, 0, 0, 0, 0, 0, 0, 0, 0, 0, 0, 0, 0, 0, 1].getD k 0
theorem aboveSum {b x y : Nat} {w : World} (hb : w.heap[b]? = some (.cells (beS 16) 271 (0, 0))) (hxy : x + y < 18446744073709551616) :
    Calls Tryz.prog 79 #[.slice (some ⟨b, 0, none⟩) 16 16, .int .u64 (x : Nat), .int .u64 (y : Nat)] w fun e w' => e = .returned (.bool true) ∧ w = w' := by
  have d1 : decide ((x : Int) + (y : Int) < (x : Int)) = false := decide_eq_false (by omega)
  have HB := Lib.hid hb; clear hb
  go_enter Tryz.func79, Tryz.ntmps79
  go_wp2
  go_loopw [9, 10, 21] (fun p q i wr => ∃ k : Nat, k ≤ 16 ∧ i = .int .i64 k ∧ p = .int .u64 (hiA k) ∧ q = .int .u64 (loA k) ∧ wr = w) (fun _ _ i _ => 16 - (intOf i).toNat)
  case atStart => exact ⟨0, by omega, rfl, rfl, rfl, rfl⟩
  case round =>
    obtain ⟨k, hk, rfl, rfl, rfl, rfl⟩ := hrel
    obtain rfl | rfl | rfl | rfl | rfl | rfl | rfl | rfl | rfl | rfl | rfl | rfl | rfl | rfl | rfl | rfl | rfl : k = 16 ∨ k = 0 ∨ k = 1 ∨ k = 2 ∨ k = 3 ∨ k = 4 ∨ k = 5 ∨ k = 6 ∨ k = 7 ∨ k = 8 ∨ k = 9 ∨ k = 10 ∨ k = 11 ∨ k = 12 ∨ k = 13 ∨ k = 14 ∨ k = 15 := by omega
    · rw [show hiA 16 = 18446744073709551588 from rfl, show loA 16 = 1 from rfl]
      go_wp2
      go_ret
      exact ⟨rfl, rfl⟩
    · rw [show hiA 0 = 0 from rfl, show loA 0 = 0 from rfl]
      have hc : wr.cell? ⟨b, 0, none⟩ = some (.int .u8 255) := (blk_cell HB.out 0).trans (by kernel_rfl)
      go_wp2
      refine ⟨⟨1, by omega, rfl, ?_, ?_, ?_⟩, by simp [intOf]⟩ <;> first | rfl | trivial
    · rw [show hiA 1 = 255 from rfl, show loA 1 = 0 from rfl]
      have hc : wr.cell? ⟨b, 1, none⟩ = some (.int .u8 255) := (blk_cell HB.out 1).trans (by kernel_rfl)
      go_wp2
      refine ⟨⟨2, by omega, rfl, ?_, ?_, ?_⟩, by simp [intOf]⟩ <;> first | rfl | trivial
    · rw [show hiA 2 = 65535 from rfl, show loA 2 = 0 from rfl]
      have hc : wr.cell? ⟨b, 2, none⟩ = some (.int .u8 255) := (blk_cell HB.out 2).trans (by kernel_rfl)
      go_wp2
      refine ⟨⟨3, by omega, rfl, ?_, ?_, ?_⟩, by simp [intOf]⟩ <;> first | rfl | trivial
    · rw [show hiA 3 = 16777215 from rfl, show loA 3 = 0 from rfl]
      have hc : wr.cell? ⟨b, 3, none⟩ = some (.int .u8 255) := (blk_cell HB.out 3).trans (by kernel_rfl)
      go_wp2
      refine ⟨⟨4, by omega, rfl, ?_, ?_, ?_⟩, by simp [intOf]⟩ <;> first | rfl | trivial
    · rw [show hiA 4 = 4294967295 from rfl, show loA 4 = 0 from rfl]
      have hc : wr.cell? ⟨b, 4, none⟩ = some (.int .u8 255) := (blk_cell HB.out 4).trans (by kernel_rfl)
      go_wp2
      refine ⟨⟨5, by omega, rfl, ?_, ?_, ?_⟩, by simp [intOf]⟩ <;> first | rfl | trivial
    · rw [show hiA 5 = 1099511627775 from rfl, show loA 5 = 0 from rfl]
      have hc : wr.cell? ⟨b, 5, none⟩ = some (.int .u8 255) := (blk_cell HB.out 5).trans (by kernel_rfl)
      go_wp2
      refine ⟨⟨6, by omega, rfl, ?_, ?_, ?_⟩, by simp [intOf]⟩ <;> first | rfl | trivial
    · rw [show hiA 6 = 281474976710655 from rfl, show loA 6 = 0 from rfl]
      have hc : wr.cell? ⟨b, 6, none⟩ = some (.int .u8 255) := (blk_cell HB.out 6).trans (by kernel_rfl)
      go_wp2
      refine ⟨⟨7, by omega, rfl, ?_, ?_, ?_⟩, by simp [intOf]⟩ <;> first | rfl | trivial
    · rw [show hiA 7 = 72057594037927935 from rfl, show loA 7 = 0 from rfl]
      have hc : wr.cell? ⟨b, 7, none⟩ = some (.int .u8 228) := (blk_cell HB.out 7).trans (by kernel_rfl)
      go_wp2
      refine ⟨⟨8, by omega, rfl, ?_, ?_, ?_⟩, by simp [intOf]⟩ <;> first | rfl | trivial
    · rw [show hiA 8 = 18446744073709551588 from rfl, show loA 8 = 0 from rfl]
      have hc : wr.cell? ⟨b, 8, none⟩ = some (.int .u8 0) := (blk_cell HB.out 8).trans (by kernel_rfl)
      go_wp2
      refine ⟨⟨9, by omega, rfl, ?_, ?_, ?_⟩, by simp [intOf]⟩ <;> first | rfl | trivial
    · rw [show hiA 9 = 18446744073709551588 from rfl, show loA 9 = 0 from rfl]
      have hc : wr.cell? ⟨b, 9, none⟩ = some (.int .u8 0) := (blk_cell HB.out 9).trans (by kernel_rfl)
      go_wp2
      refine ⟨⟨10, by omega, rfl, ?_, ?_, ?_⟩, by simp [intOf]⟩ <;> first | rfl | trivial
    · rw [show hiA 10 = 18446744073709551588 from rfl, show loA 10 = 0 from rfl]
      have hc : wr.cell? ⟨b, 10, none⟩ = some (.int .u8 0) := (blk_cell HB.out 10).trans (by kernel_rfl)
      go_wp2
      refine ⟨⟨11, by omega, rfl, ?_, ?_, ?_⟩, by simp [intOf]⟩ <;> first | rfl | trivial
    · rw [show hiA 11 = 18446744073709551588 from rfl, show loA 11 = 0 from rfl]
      have hc : wr.cell? ⟨b, 11, none⟩ = some (.int .u8 0) := (blk_cell HB.out 11).trans (by kernel_rfl)
      go_wp2
      refine ⟨⟨12, by omega, rfl, ?_, ?_, ?_⟩, by simp [intOf]⟩ <;> first | rfl | trivial
    · rw [show hiA 12 = 18446744073709551588 from rfl, show loA 12 = 0 from rfl]
      have hc : wr.cell? ⟨b, 12, none⟩ = some (.int .u8 0) := (blk_cell HB.out 12).trans (by kernel_rfl)
      go_wp2
      refine ⟨⟨13, by omega, rfl, ?_, ?_, ?_⟩, by simp [intOf]⟩ <;> first | rfl | trivial
    · rw [show hiA 13 = 18446744073709551588 from rfl, show loA 13 = 0 from rfl]
      have hc : wr.cell? ⟨b, 13, none⟩ = some (.int .u8 0) := (blk_cell HB.out 13).trans (by kernel_rfl)
      go_wp2
      refine ⟨⟨14, by omega, rfl, ?_, ?_, ?_⟩, by simp [intOf]⟩ <;> first | rfl | trivial
    · rw [show hiA 14 = 18446744073709551588 from rfl, show loA 14 = 0 from rfl]
      have hc : wr.cell? ⟨b, 14, none⟩ = some (.int .u8 0) := (blk_cell HB.out 14).trans (by kernel_rfl)
      go_wp2
      refine ⟨⟨15, by omega, rfl, ?_, ?_, ?_⟩, by simp [intOf]⟩ <;> first | rfl | trivial
    · rw [show hiA 15 = 18446744073709551588 from rfl, show loA 15 = 0 from rfl]
      have hc : wr.cell? ⟨b, 15, none⟩ = some (.int .u8 1) := (blk_cell HB.out 15).trans (by kernel_rfl)
      go_wp2
      refine ⟨⟨16, by omega, rfl, ?_, ?_, ?_⟩, by simp [intOf]⟩ <;> first | rfl | trivial
end Go.Proofs.YtlmmdldjfpdcfaaGreatDoor

/-
  The proof systems' makers: sum.
-/
namespace Go.Proofs.YtlmmdldjfpdcfaaGreatDoor
open Go.RowKit

theorem setU64 {b o x : Nat} {cs : Array Value} {t : TypeId} {w : World} (hx : x < P64) (hb : w.heap[b]? = some (.cells cs t (0, 0))) (ho : o < cs.size) :
    Calls Tryz.prog 69 #[.pointer (some ⟨b, o, none⟩), .int .u64 (x : Nat)] w fun e w' => e = .returned .nilIface ∧ Ext w w' (fun k => k = b) ∧ w'.heap[b]? = some (.cells (cs.setIfInBounds o (.int .u64 (tom64 x : Nat))) t (0, 0)) := by
  have hd : decide ((18446744069414584321 : Int) ≤ (x : Int)) = false := decide_eq_false (by simp only [P64] at hx; omega)
  have hc : w.cell? ⟨b, o, none⟩ = some (cs[o]'ho) := by rw [blk_cell hb]; exact Array.getElem?_eq_getElem ho
  have hf := blk_frz hb o
  have HX := Lib.hid hx; clear hx
  have HB := Lib.hid hb; clear hb
  have hc1 : (w.setCell ⟨b, o, none⟩ (.int .u64 (x : Nat))).cell? ⟨b, o, none⟩ = some (.int .u64 (x : Int)) := World.cell?_setCell_same _ _ _ hc
  have hf1 : (w.setCell ⟨b, o, none⟩ (.int .u64 (x : Nat))).frozen? ⟨b, o, none⟩ = false := blk_frz (blk_set HB.out _ _) _
  go_enter Tryz.func69, Tryz.ntmps69
  go_wp2_with (go_at_call 88; refine (toMont64 HX.out hc1 hf1).mono ?_; rintro e w' ⟨rfl, hx⟩)
  go_ret
  refine ⟨rfl, (((Ext.refl w (fun k => k = b)).set (.inr rfl) _).set (.inr rfl) _).transNo hx, ?_⟩
  have h := hx.blkNo (blk_set (blk_set HB.out o (.int .u64 (x : Nat))) o (.int .u64 (tom64 x : Nat)))
  rw [Array.setIfInBounds_setIfInBounds] at h
  exact h

theorem off64 {k m : Nat} (h1 : m < 2 ^ k) (h2 : k ≤ 63) : IntKind.u64.wrap (IntKind.u64.wrap (IntKind.u64.wrap (2 ^ k) - 1) - (m : Int)) = ((2 ^ k - 1 - m : Nat) : Int) ∧ 2 ^ k - 1 - m < P64 := by
  have h3 : 2 ^ k ≤ 2 ^ 63 := Nat.pow_le_pow_right (by decide) h2
  have h4 : ((2 : Int) ^ k) = ((2 ^ k : Nat) : Int) := by simp
  rw [h4]
  generalize 2 ^ k = q at *
  simp only [IntKind.wrap_u64, P64]
  have : (2 : Nat) ^ 63 = 9223372036854775808 := by decide
  omega

set_option maxRecDepth 20000 in
theorem cells215 : (Tryz.prog.cellsOf 215 == 0) = false ∧ Tryz.prog.cellsOf 215 = 9 ∧ byteOfCell Tryz.prog Tryz.prog.depth 215 1 = some 8 := ⟨by kernel_rfl, by kernel_rfl, by kernel_rfl⟩
theorem flpSum {m : Nat} (hm : m < 9223372036854775808) (w : World) : Calls Tryz.prog 53 #[.int .u64 (m : Nat)] w fun e w' => ∃ fb, e = .returned (.tuple #[.pointer (some ⟨fb, 0, none⟩), .nilIface]) ∧ Ext w w' No ∧ Flp 215 1 fb 1 w' ∧ w.heap.size ≤ fb := by
  have hd : decide ((9223372036854775808 : Int) ≤ (m : Int)) = false := decide_eq_false (by omega)
  have HM := Lib.hid hm; clear hm
  go_enter Tryz.func53, Tryz.ntmps53
  go_wp2_with (first
    | (go_at_call 39; refine (len64 m (by have := HM.out; omega) _).mono ?_; rintro e w' ⟨⟨k, rfl, hk1, hk2, hk3⟩, rfl⟩; have H1 := Lib.hid hk1; clear hk1; have H3 := Lib.hid (hk3 HM.out); clear hk3)
    | (go_at_call 69; (rw [(off64 H1.out H3.out).1]; refine (setU64 (off64 H1.out H3.out).2 (blk_new _ _) (Nat.lt_of_sub_eq_succ rfl)).mono ?_; rintro e w1 ⟨rfl, hx1, hb1⟩; have c0 : w1.cell? ⟨w.heap.size, 0, none⟩ = some (.nilFunc) := blk_cell hb1 0; have f0 := blk_frz hb1 0; have c1 : w1.cell? ⟨w.heap.size, 1, none⟩ = some (.int .u64 0) := blk_cell hb1 1; have f1 := blk_frz hb1 1; have c2 : w1.cell? ⟨w.heap.size, 2, none⟩ = some (.int .u64 0) := blk_cell hb1 2; have f2 := blk_frz hb1 2; have c3 : w1.cell? ⟨w.heap.size, 3, none⟩ = some (.int .u64 0) := blk_cell hb1 3; have f3 := blk_frz hb1 3; have c4 : w1.cell? ⟨w.heap.size, 4, none⟩ = some (.int .u64 0) := blk_cell hb1 4; have f4 := blk_frz hb1 4; have c5 : w1.cell? ⟨w.heap.size, 5, none⟩ = some (.int .u64 0) := blk_cell hb1 5; have f5 := blk_frz hb1 5; have hsh := shape_of_blk (n := 9) hb1 rfl; have hp := partAt4 (o := 1) hsh cells215.1 (by rw [cells215.2.1]; exact cells215.2.2); have HB1 := Lib.hid hb1; clear hb1; have HX1 := Lib.hid hx1; clear hx1)))
  go_ret2
  have h1 := H3.out
  have hb := blk_set (blk_set (blk_set (blk_set (blk_set (blk_set HB1.out 2 (.int .u64 (2 * (k : Int)))) 3 (.int .u64 0)) 5 (.int .u64 1)) 4 (.int .u64 (2 * (k : Int) + 1))) 1 (.int .u64 (2 * (k : Int)))) 0 (.func (.func 70) #[.pointer (some ⟨w.heap.size, 0, none⟩)] #[])
  simp only [List.setIfInBounds_toArray, List.set_cons_zero, List.set_cons_succ] at hb
  have hx : Ext w w1 No := ((Ext.refl w No).alloc _).trans HX1.out (fun i hi h => by subst h; exact absurd hi (Nat.lt_irrefl _))
  have le := Nat.le_refl w.heap.size
  refine ⟨_, rfl, (((((hx.set (.inl le) _).set (.inl le) _).set (.inl le) _).set (.inl le) _).set (.inl le) _).set (.inl le) _, Flp.of1 hb (u64c_int (z := 2 * (k : Int)) rfl (by omega)) (u64c_int (z := 2 * (k : Int)) rfl (by omega)) (u64c_int (z := 0) rfl (by omega)) (u64c_int (z := 2 * (k : Int) + 1) rfl (by omega)) rfl, le⟩
end Go.Proofs.YtlmmdldjfpdcfaaGreatDoor

/-
  The proof systems' makers: mhcv.
-/
namespace Go.Proofs.YtlmmdldjfpdcfaaGreatDoor
open Go.RowKit

theorem setU128 {b o x : Nat} {cs : Array Value} {t : TypeId} {w : World} (hx : x < 18446744073709551616) (hb : w.heap[b]? = some (.cells cs t (0, 0))) (ho : o + 1 < cs.size) :
    Calls Tryz.prog 81 #[.pointer (some ⟨b, o, none⟩), .int .u64 (x : Nat)] w fun e w' => e = .returned .nilIface ∧ Ext w w' (fun k => k = b) ∧
      w'.heap[b]? = some (.cells ((cs.setIfInBounds o (.int .u64 (lw (tom128 x)))).setIfInBounds (o + 1) (.int .u64 (hw (tom128 x)))) t (0, 0)) := by
  have hP : x < P128 := by simp only [P128]; omega
  have e1 : lw x = (x : Int) := by unfold lw; omega
  have e2 : hw x = 0 := by unfold hw; omega
  have hc : w.cell? ⟨b, o, none⟩ = some (cs[o]'(by omega)) := by rw [blk_cell hb]; exact Array.getElem?_eq_getElem _
  have hc' : w.cell? ⟨b, o + 1, none⟩ = some (cs[o + 1]'ho) := by rw [blk_cell hb]; exact Array.getElem?_eq_getElem _
  have hf := blk_frz hb o
  have hf' := blk_frz hb (o + 1)
  have hb2 := blk_set (blk_set hb o (.int .u64 (x : Nat))) (o + 1) (.int .u64 0)
  have HC := Lib.hid hP; clear hP
  have HB := Lib.hid hb2; clear hb2 hb
  have k0 := (blk_cell HB.out o).trans (set2_get0 _ _ _ _ ho)
  have k1 := (blk_cell HB.out (o + 1)).trans (set2_get1 _ _ _ _ ho)
  have g0 := blk_frz HB.out o
  have g1 := blk_frz HB.out (o + 1)
  go_enter Tryz.func81, Tryz.ntmps81
  go_wp2_with (go_at_call 100; refine (toMont128 (v := x) HC.out (by rw [e1]; exact k0) g0 (by rw [e2]; exact k1) g1).mono ?_; rintro e w' ⟨rfl, hx⟩)
  go_ret
  refine ⟨rfl, (((((Ext.refl w (fun k => k = b)).set (.inr rfl) _).set (.inr rfl) _).set (.inr rfl) _).set (.inr rfl) _).transNo hx, ?_⟩
  have h := hx.blkNo (blk_set (blk_set HB.out o (.int .u64 (lw (tom128 x)))) (o + 1) (.int .u64 (hw (tom128 x))))
  rw [set2_set2] at h
  exact h

theorem flpMhcv {n m c : Nat} (hn0 : 0 < n) (hn : n ≤ 16) (hm : m ≤ n) (hc0 : 0 < c) (hc : c ≤ 16) (w : World) : Calls Tryz.prog 63 #[.int .u64 (n : Nat), .int .u64 (m : Nat), .int .u64 (c : Nat)] w fun e w' =>
    ∃ fb, e = .returned (.tuple #[.pointer (some ⟨fb, 0, none⟩), .nilIface]) ∧ Ext w w' No ∧ Flp 246 2 fb n w' ∧ w.heap.size ≤ fb := by
  have d1 : ((n : Int) == 0) = false := by simp; omega
  have d2 : decide ((n : Int) < (m : Int)) = false := decide_eq_false (by omega)
  have d2' : decide (n < m) = false := decide_eq_false (by omega)
  have d3 : ((c : Int) == 0) = false := by simp; omega
  have HN := Lib.hid hn; clear hn
  have HM := Lib.hid hm; clear hm
  go_enter Tryz.func63, Tryz.ntmps63
  go_wp2_with (first
    | (go_at_call 39; refine (len64 m (by have := HM.out; have := HN.out; omega) _).mono ?_; rintro e w' ⟨⟨k, rfl, hk1, hk2, hk3⟩, rfl⟩; have H1 := Lib.hid hk1; clear hk1; have H3 := Lib.hid (hk3 (by have := HM.out; have := HN.out; omega)); clear hk3)
    | (go_at_call 80; refine (order128 _ rfl).mono ?_; rintro e w1 ⟨b1, rfl, hx1, hb1⟩; have HX1 := Lib.hid hx1; clear hx1; have HB1 := Lib.hid hb1; clear hb1)
    | (go_at_call 79; rw [(off64 H1.out H3.out).1]; refine (aboveSum HB1.out (by have h := (off64 H1.out H3.out).2; have := HN.out; simp only [P64] at h; omega)).mono ?_; rintro e w' ⟨rfl, rfl⟩)
    | (go_at_call 81; refine (setU128 (by have h := (off64 H1.out H3.out).2; simp only [P64] at h; omega) (blk_new _ _) (Nat.lt_of_sub_eq_succ rfl)).mono ?_; rintro e w2 ⟨rfl, hx2, hb2⟩; simp only [List.setIfInBounds_toArray, List.set_cons_zero, List.set_cons_succ] at hb2; have c0 : w2.cell? ⟨w1.heap.size, 0, none⟩ = some (.nilFunc) := blk_cell hb2 0; have f0 := blk_frz hb2 0; have c1 : w2.cell? ⟨w1.heap.size, 1, none⟩ = some (.int .u64 0) := blk_cell hb2 1; have f1 := blk_frz hb2 1; have c2 : w2.cell? ⟨w1.heap.size, 2, none⟩ = some (.int .u64 0) := blk_cell hb2 2; have f2 := blk_frz hb2 2; have c3 : w2.cell? ⟨w1.heap.size, 3, none⟩ = some (.int .u64 0) := blk_cell hb2 3; have f3 := blk_frz hb2 3; have c4 : w2.cell? ⟨w1.heap.size, 4, none⟩ = some (.int .u64 0) := blk_cell hb2 4; have f4 := blk_frz hb2 4; have c5 : w2.cell? ⟨w1.heap.size, 5, none⟩ = some (.int .u64 0) := blk_cell hb2 5; have f5 := blk_frz hb2 5; have c6 : w2.cell? ⟨w1.heap.size, 6, none⟩ = some (.int .u64 0) := blk_cell hb2 6; have f6 := blk_frz hb2 6; have HB2 := Lib.hid hb2; clear hb2; have HX2 := Lib.hid hx2; clear hx2))
  go_ret2
  have hn := HN.out
  have hb := blk_set (blk_set (blk_set (blk_set (blk_set (blk_set (blk_set HB2.out 3 (.int .u64 (IntKind.u64.wrap ((n : Int) + (k : Int))))) 4 (.int .u64 (IntKind.u64.wrap ((IntKind.u64.wrap (IntKind.u64.wrap (IntKind.u64.wrap ((n : Int) + (k : Int)) + (c : Int)) - 1)).tdiv (c : Int))))) 6 (.int .u64 (n : Nat))) 5 (.int .u64 2)) 1 (.int .u64 (c : Nat))) 2 (.int .u64 (IntKind.u64.wrap ((IntKind.u64.wrap (IntKind.u64.wrap (IntKind.u64.wrap ((n : Int) + (k : Int)) + (c : Int)) - 1)).tdiv (c : Int))))) 0 (.func (.func 82) #[.pointer (some ⟨w1.heap.size, 0, none⟩)] #[])
  simp only [List.setIfInBounds_toArray, List.set_cons_zero, List.set_cons_succ] at hb
  have h01 : Ext w w1 No := ((Ext.refl w No).alloc _).transNo HX1.out
  have l1 := h01.size
  have hx : Ext w w2 No := (h01.alloc _).trans HX2.out (fun i hi h => by omega)
  have le : w.heap.size ≤ w1.heap.size := l1
  exact ⟨_, rfl, ((((((hx.set (.inl le) _).set (.inl le) _).set (.inl le) _).set (.inl le) _).set (.inl le) _).set (.inl le) _).set (.inl le) _, Flp.of2 hb (u64c_int (z := (c : Int)) rfl (by omega)) (u64c_wrap rfl) (u64c_wrap rfl) (u64c_wrap rfl) (u64c_int (z := 2) rfl (by omega)) rfl, le⟩
end Go.Proofs.YtlmmdldjfpdcfaaGreatDoor

/-
  The Params of a proof system, read and looked up.
-/
namespace Go.Proofs.YtlmmdldjfpdcfaaGreatDoor
open Go.RowKit

theorem cell_set_ne {w : World} {b i j : Nat} {u v : Value} (h : w.cell? ⟨b, i, none⟩ = some v) (hne : i ≠ j) : (w.setCell ⟨b, j, none⟩ u).cell? ⟨b, i, none⟩ = some v := by
  exact (World.cell?_setCell_other _ _ _ _ (fun e => hne (Addr.mk.inj e).2.1.symm)).trans h
theorem info202 : (Tryz.prog.info? 202).map (·.size) = some 4 := by kernel_rfl
def params (a j c out : Nat) : Value := .agg #[.int .u64 (a : Nat), .int .u64 (j : Nat), .int .u64 (c : Nat), .int .u64 (out : Nat)]
/-- What the Params of the block fb are. -/
def Par (gi fb a j c out : Nat) (w : World) : Prop := (loadVar 202 ⟨fb, gi + 1, none⟩).run Tryz.prog w = .ok (params a j c out) w
theorem Flp.par {t : TypeId} {gi fb out : Nat} {w : World} (h : Flp t gi fb out w) : ∃ a j c : Nat, a < 18446744073709551616 ∧ j < 18446744073709551616 ∧ c < 18446744073709551616 ∧ ∀ w' S, Ext w w' S → ¬ S fb → Par gi fb a j c out w' := by
  obtain ⟨cs, hb, hn, ho⟩ := h
  obtain ⟨a, ha, la⟩ := hn (gi + 1) (by omega) (by omega)
  obtain ⟨j, hj, lj⟩ := hn (gi + 2) (by omega) (by omega)
  obtain ⟨c, hc, lc⟩ := hn (gi + 3) (by omega) (by omega)
  refine ⟨a, j, c, la, lj, lc, fun w' S hx hS => ?_⟩
  have hb' := hx.blk hb hS
  have hr : w'.rangeAt fb (gi + 1) [.int .u64 (a : Nat), .int .u64 (j : Nat), .int .u64 (c : Nat), .int .u64 (out : Nat)] := by
    intro i v hv
    rw [blk_cell hb']
    match i, hv with
    | 0, hv => exact ha.trans hv
    | 1, hv => exact hj.trans hv
    | 2, hv => exact hc.trans hv
    | 3, hv => exact ho.trans hv
  exact run_loadVar_mid w' fb (gi + 1) 202 _ _ hr Tryz.underlying202 rfl info202

theorem parJ (a j c out : Nat) (w : World) : Calls Tryz.prog 246 #[params a j c out] w fun e w' => e = .returned (.int .u64 (j : Nat)) ∧ Ext w w' No := by
  unfold params
  go_enter Tryz.func246, Tryz.ntmps246
  go_wp2
  go_ret
  exact ⟨rfl, (Ext.refl w No).alloc _⟩
theorem parE (a j c out : Nat) (w : World) : Calls Tryz.prog 245 #[params a j c out] w fun e w' => e = .returned (.int .u64 (c : Nat)) ∧ Ext w w' No := by
  unfold params
  go_enter Tryz.func245, Tryz.ntmps245
  go_wp2
  go_ret
  exact ⟨rfl, (Ext.refl w No).alloc _⟩
theorem parM (a j c out : Nat) (w : World) : Calls Tryz.prog 247 #[params a j c out] w fun e w' => e = .returned (.int .u64 (a : Nat)) ∧ Ext w w' No := by
  unfold params
  go_enter Tryz.func247, Tryz.ntmps247
  go_wp2
  go_ret
  exact ⟨rfl, (Ext.refl w No).alloc _⟩
theorem parO (a j c out : Nat) (w : World) : Calls Tryz.prog 248 #[params a j c out] w fun e w' => e = .returned (.int .u64 (out : Nat)) ∧ Ext w w' No := by
  unfold params
  go_enter Tryz.func248, Tryz.ntmps248
  go_wp2
  go_ret
  exact ⟨rfl, (Ext.refl w No).alloc _⟩
theorem parQ (a j c out : Nat) (w : World) : Calls Tryz.prog 251 #[params a j c out] w fun e w' => (∃ q, e = .returned (.int .u64 q)) ∧ Ext w w' No := by
  unfold params
  go_enter Tryz.func251, Tryz.ntmps251
  go_wp2
  go_ret
  exact ⟨⟨_, rfl⟩, (Ext.refl w No).alloc _⟩
@[go_sem] theorem ahead129JointRandLength (b : Nat) (w : World) : (nilAhead 486 129 (.pointer (some ⟨b, 0, none⟩)) "JointRandLength").run Tryz.prog w = .ok (some false) w := by kernel_rfl
theorem meth129JointRandLength {b a j c out : Nat} {w : World} (h : Par 1 b a j c out w) : (method 486 129 (.pointer (some ⟨b, 0, none⟩)) "JointRandLength").run Tryz.prog w = .ok (246, params a j c out) w :=
  method_value 485 (by kernel_rfl) (by kernel_rfl) Tryz.underlying202 h
@[go_sem] theorem ahead129MeasurementLength (b : Nat) (w : World) : (nilAhead 486 129 (.pointer (some ⟨b, 0, none⟩)) "MeasurementLength").run Tryz.prog w = .ok (some false) w := by kernel_rfl
theorem meth129MeasurementLength {b a j c out : Nat} {w : World} (h : Par 1 b a j c out w) : (method 486 129 (.pointer (some ⟨b, 0, none⟩)) "MeasurementLength").run Tryz.prog w = .ok (247, params a j c out) w :=
  method_value 485 (by kernel_rfl) (by kernel_rfl) Tryz.underlying202 h
@[go_sem] theorem ahead129OutputLength (b : Nat) (w : World) : (nilAhead 486 129 (.pointer (some ⟨b, 0, none⟩)) "OutputLength").run Tryz.prog w = .ok (some false) w := by kernel_rfl
theorem meth129OutputLength {b a j c out : Nat} {w : World} (h : Par 1 b a j c out w) : (method 486 129 (.pointer (some ⟨b, 0, none⟩)) "OutputLength").run Tryz.prog w = .ok (248, params a j c out) w :=
  method_value 485 (by kernel_rfl) (by kernel_rfl) Tryz.underlying202 h
@[go_sem] theorem ahead129EvalOutputLength (b : Nat) (w : World) : (nilAhead 486 129 (.pointer (some ⟨b, 0, none⟩)) "EvalOutputLength").run Tryz.prog w = .ok (some false) w := by kernel_rfl
theorem meth129EvalOutputLength {b a j c out : Nat} {w : World} (h : Par 1 b a j c out w) : (method 486 129 (.pointer (some ⟨b, 0, none⟩)) "EvalOutputLength").run Tryz.prog w = .ok (245, params a j c out) w :=
  method_value 485 (by kernel_rfl) (by kernel_rfl) Tryz.underlying202 h
@[go_sem] theorem ahead129QueryRandLength (b : Nat) (w : World) : (nilAhead 486 129 (.pointer (some ⟨b, 0, none⟩)) "QueryRandLength").run Tryz.prog w = .ok (some false) w := by kernel_rfl
theorem meth129QueryRandLength {b a j c out : Nat} {w : World} (h : Par 1 b a j c out w) : (method 486 129 (.pointer (some ⟨b, 0, none⟩)) "QueryRandLength").run Tryz.prog w = .ok (251, params a j c out) w :=
  method_value 485 (by kernel_rfl) (by kernel_rfl) Tryz.underlying202 h
@[go_sem] theorem ahead148JointRandLength (b : Nat) (w : World) : (nilAhead 486 148 (.pointer (some ⟨b, 0, none⟩)) "JointRandLength").run Tryz.prog w = .ok (some false) w := by kernel_rfl
theorem meth148JointRandLength {b a j c out : Nat} {w : World} (h : Par 1 b a j c out w) : (method 486 148 (.pointer (some ⟨b, 0, none⟩)) "JointRandLength").run Tryz.prog w = .ok (246, params a j c out) w :=
  method_value 485 (by kernel_rfl) (by kernel_rfl) Tryz.underlying202 h
@[go_sem] theorem ahead148MeasurementLength (b : Nat) (w : World) : (nilAhead 486 148 (.pointer (some ⟨b, 0, none⟩)) "MeasurementLength").run Tryz.prog w = .ok (some false) w := by kernel_rfl
theorem meth148MeasurementLength {b a j c out : Nat} {w : World} (h : Par 1 b a j c out w) : (method 486 148 (.pointer (some ⟨b, 0, none⟩)) "MeasurementLength").run Tryz.prog w = .ok (247, params a j c out) w :=
  method_value 485 (by kernel_rfl) (by kernel_rfl) Tryz.underlying202 h
@[go_sem] theorem ahead148OutputLength (b : Nat) (w : World) : (nilAhead 486 148 (.pointer (some ⟨b, 0, none⟩)) "OutputLength").run Tryz.prog w = .ok (some false) w := by kernel_rfl
theorem meth148OutputLength {b a j c out : Nat} {w : World} (h : Par 1 b a j c out w) : (method 486 148 (.pointer (some ⟨b, 0, none⟩)) "OutputLength").run Tryz.prog w = .ok (248, params a j c out) w :=
  method_value 485 (by kernel_rfl) (by kernel_rfl) Tryz.underlying202 h
@[go_sem] theorem ahead148EvalOutputLength (b : Nat) (w : World) : (nilAhead 486 148 (.pointer (some ⟨b, 0, none⟩)) "EvalOutputLength").run Tryz.prog w = .ok (some false) w := by kernel_rfl
theorem meth148EvalOutputLength {b a j c out : Nat} {w : World} (h : Par 1 b a j c out w) : (method 486 148 (.pointer (some ⟨b, 0, none⟩)) "EvalOutputLength").run Tryz.prog w = .ok (245, params a j c out) w :=
  method_value 485 (by kernel_rfl) (by kernel_rfl) Tryz.underlying202 h
@[go_sem] theorem ahead148QueryRandLength (b : Nat) (w : World) : (nilAhead 486 148 (.pointer (some ⟨b, 0, none⟩)) "QueryRandLength").run Tryz.prog w = .ok (some false) w := by kernel_rfl
theorem meth148QueryRandLength {b a j c out : Nat} {w : World} (h : Par 1 b a j c out w) : (method 486 148 (.pointer (some ⟨b, 0, none⟩)) "QueryRandLength").run Tryz.prog w = .ok (251, params a j c out) w :=
  method_value 485 (by kernel_rfl) (by kernel_rfl) Tryz.underlying202 h
@[go_sem] theorem ahead161JointRandLength (b : Nat) (w : World) : (nilAhead 486 161 (.pointer (some ⟨b, 0, none⟩)) "JointRandLength").run Tryz.prog w = .ok (some false) w := by kernel_rfl
theorem meth161JointRandLength {b a j c out : Nat} {w : World} (h : Par 2 b a j c out w) : (method 486 161 (.pointer (some ⟨b, 0, none⟩)) "JointRandLength").run Tryz.prog w = .ok (246, params a j c out) w :=
  method_value 485 (by kernel_rfl) (by kernel_rfl) Tryz.underlying202 h
@[go_sem] theorem ahead161MeasurementLength (b : Nat) (w : World) : (nilAhead 486 161 (.pointer (some ⟨b, 0, none⟩)) "MeasurementLength").run Tryz.prog w = .ok (some false) w := by kernel_rfl
theorem meth161MeasurementLength {b a j c out : Nat} {w : World} (h : Par 2 b a j c out w) : (method 486 161 (.pointer (some ⟨b, 0, none⟩)) "MeasurementLength").run Tryz.prog w = .ok (247, params a j c out) w :=
  method_value 485 (by kernel_rfl) (by kernel_rfl) Tryz.underlying202 h
@[go_sem] theorem ahead161OutputLength (b : Nat) (w : World) : (nilAhead 486 161 (.pointer (some ⟨b, 0, none⟩)) "OutputLength").run Tryz.prog w = .ok (some false) w := by kernel_rfl
theorem meth161OutputLength {b a j c out : Nat} {w : World} (h : Par 2 b a j c out w) : (method 486 161 (.pointer (some ⟨b, 0, none⟩)) "OutputLength").run Tryz.prog w = .ok (248, params a j c out) w :=
  method_value 485 (by kernel_rfl) (by kernel_rfl) Tryz.underlying202 h
@[go_sem] theorem ahead161EvalOutputLength (b : Nat) (w : World) : (nilAhead 486 161 (.pointer (some ⟨b, 0, none⟩)) "EvalOutputLength").run Tryz.prog w = .ok (some false) w := by kernel_rfl
theorem meth161EvalOutputLength {b a j c out : Nat} {w : World} (h : Par 2 b a j c out w) : (method 486 161 (.pointer (some ⟨b, 0, none⟩)) "EvalOutputLength").run Tryz.prog w = .ok (245, params a j c out) w :=
  method_value 485 (by kernel_rfl) (by kernel_rfl) Tryz.underlying202 h
@[go_sem] theorem ahead161QueryRandLength (b : Nat) (w : World) : (nilAhead 486 161 (.pointer (some ⟨b, 0, none⟩)) "QueryRandLength").run Tryz.prog w = .ok (some false) w := by kernel_rfl
theorem meth161QueryRandLength {b a j c out : Nat} {w : World} (h : Par 2 b a j c out w) : (method 486 161 (.pointer (some ⟨b, 0, none⟩)) "QueryRandLength").run Tryz.prog w = .ok (251, params a j c out) w :=
  method_value 485 (by kernel_rfl) (by kernel_rfl) Tryz.underlying202 h
@[go_sem] theorem ahead173JointRandLength (b : Nat) (w : World) : (nilAhead 486 173 (.pointer (some ⟨b, 0, none⟩)) "JointRandLength").run Tryz.prog w = .ok (some false) w := by kernel_rfl
theorem meth173JointRandLength {b a j c out : Nat} {w : World} (h : Par 2 b a j c out w) : (method 486 173 (.pointer (some ⟨b, 0, none⟩)) "JointRandLength").run Tryz.prog w = .ok (246, params a j c out) w :=
  method_value 485 (by kernel_rfl) (by kernel_rfl) Tryz.underlying202 h
@[go_sem] theorem ahead173MeasurementLength (b : Nat) (w : World) : (nilAhead 486 173 (.pointer (some ⟨b, 0, none⟩)) "MeasurementLength").run Tryz.prog w = .ok (some false) w := by kernel_rfl
theorem meth173MeasurementLength {b a j c out : Nat} {w : World} (h : Par 2 b a j c out w) : (method 486 173 (.pointer (some ⟨b, 0, none⟩)) "MeasurementLength").run Tryz.prog w = .ok (247, params a j c out) w :=
  method_value 485 (by kernel_rfl) (by kernel_rfl) Tryz.underlying202 h
@[go_sem] theorem ahead173OutputLength (b : Nat) (w : World) : (nilAhead 486 173 (.pointer (some ⟨b, 0, none⟩)) "OutputLength").run Tryz.prog w = .ok (some false) w := by kernel_rfl
theorem meth173OutputLength {b a j c out : Nat} {w : World} (h : Par 2 b a j c out w) : (method 486 173 (.pointer (some ⟨b, 0, none⟩)) "OutputLength").run Tryz.prog w = .ok (248, params a j c out) w :=
  method_value 485 (by kernel_rfl) (by kernel_rfl) Tryz.underlying202 h
@[go_sem] theorem ahead173EvalOutputLength (b : Nat) (w : World) : (nilAhead 486 173 (.pointer (some ⟨b, 0, none⟩)) "EvalOutputLength").run Tryz.prog w = .ok (some false) w := by kernel_rfl
theorem meth173EvalOutputLength {b a j c out : Nat} {w : World} (h : Par 2 b a j c out w) : (method 486 173 (.pointer (some ⟨b, 0, none⟩)) "EvalOutputLength").run Tryz.prog w = .ok (245, params a j c out) w :=
  method_value 485 (by kernel_rfl) (by kernel_rfl) Tryz.underlying202 h
@[go_sem] theorem ahead173QueryRandLength (b : Nat) (w : World) : (nilAhead 486 173 (.pointer (some ⟨b, 0, none⟩)) "QueryRandLength").run Tryz.prog w = .ok (some false) w := by kernel_rfl
theorem meth173QueryRandLength {b a j c out : Nat} {w : World} (h : Par 2 b a j c out w) : (method 486 173 (.pointer (some ⟨b, 0, none⟩)) "QueryRandLength").run Tryz.prog w = .ok (251, params a j c out) w :=
  method_value 485 (by kernel_rfl) (by kernel_rfl) Tryz.underlying202 h
@[go_sem] theorem ahead181JointRandLength (b : Nat) (w : World) : (nilAhead 486 181 (.pointer (some ⟨b, 0, none⟩)) "JointRandLength").run Tryz.prog w = .ok (some false) w := by kernel_rfl
theorem meth181JointRandLength {b a j c out : Nat} {w : World} (h : Par 2 b a j c out w) : (method 486 181 (.pointer (some ⟨b, 0, none⟩)) "JointRandLength").run Tryz.prog w = .ok (246, params a j c out) w :=
  method_value 485 (by kernel_rfl) (by kernel_rfl) Tryz.underlying202 h
@[go_sem] theorem ahead181MeasurementLength (b : Nat) (w : World) : (nilAhead 486 181 (.pointer (some ⟨b, 0, none⟩)) "MeasurementLength").run Tryz.prog w = .ok (some false) w := by kernel_rfl
theorem meth181MeasurementLength {b a j c out : Nat} {w : World} (h : Par 2 b a j c out w) : (method 486 181 (.pointer (some ⟨b, 0, none⟩)) "MeasurementLength").run Tryz.prog w = .ok (247, params a j c out) w :=
  method_value 485 (by kernel_rfl) (by kernel_rfl) Tryz.underlying202 h
@[go_sem] theorem ahead181OutputLength (b : Nat) (w : World) : (nilAhead 486 181 (.pointer (some ⟨b, 0, none⟩)) "OutputLength").run Tryz.prog w = .ok (some false) w := by kernel_rfl
theorem meth181OutputLength {b a j c out : Nat} {w : World} (h : Par 2 b a j c out w) : (method 486 181 (.pointer (some ⟨b, 0, none⟩)) "OutputLength").run Tryz.prog w = .ok (248, params a j c out) w :=
  method_value 485 (by kernel_rfl) (by kernel_rfl) Tryz.underlying202 h
@[go_sem] theorem ahead181EvalOutputLength (b : Nat) (w : World) : (nilAhead 486 181 (.pointer (some ⟨b, 0, none⟩)) "EvalOutputLength").run Tryz.prog w = .ok (some false) w := by kernel_rfl
theorem meth181EvalOutputLength {b a j c out : Nat} {w : World} (h : Par 2 b a j c out w) : (method 486 181 (.pointer (some ⟨b, 0, none⟩)) "EvalOutputLength").run Tryz.prog w = .ok (245, params a j c out) w :=
  method_value 485 (by kernel_rfl) (by kernel_rfl) Tryz.underlying202 h
@[go_sem] theorem ahead181QueryRandLength (b : Nat) (w : World) : (nilAhead 486 181 (.pointer (some ⟨b, 0, none⟩)) "QueryRandLength").run Tryz.prog w = .ok (some false) w := by kernel_rfl
theorem meth181QueryRandLength {b a j c out : Nat} {w : World} (h : Par 2 b a j c out w) : (method 486 181 (.pointer (some ⟨b, 0, none⟩)) "QueryRandLength").run Tryz.prog w = .ok (251, params a j c out) w :=
  method_value 485 (by kernel_rfl) (by kernel_rfl) Tryz.underlying202 h
end Go.Proofs.YtlmmdldjfpdcfaaGreatDoor
