/-
  Aggregates of each kind: begun, and a share added.
-/
import Derived.Test.YtlmmdldjfpdcfaaGreatDoorM14
namespace Go.Proofs.YtlmmdldjfpdcfaaGreatDoor
open Go.RowKit

theorem initCountA {kb out : Nat} {w : World} (hn : out ≤ 1000) (hK : Kind 208 1 kb out w) : Calls Tryz.prog 178 #[.pointer (some ⟨kb, 0, none⟩)] w fun e w' =>
    ∃ vb, e = .returned (.agg #[.slice (some ⟨vb, 0, none⟩) out out]) ∧ Ext w w' No ∧ w'.heap[vb]? = some (.cells (madeCells #[.int .u64 0] out) 44 (0, 0)) ∧ w.heap.size ≤ vb := by
  obtain ⟨fb, hc, hF, -⟩ := hK
  obtain ⟨a, j, c, la, lj, lc, hP⟩ := hF.par
  have lk := World.block_lt_of_cell? _ _ hc
  have hm : ∀ o, (method 486 129 (.pointer (some ⟨fb, 0, none⟩)) "OutputLength").run Tryz.prog (w.alloc o) = .ok (248, params a j c out) (w.alloc o) := fun o => meth129OutputLength (hP _ No ((Ext.refl w No).alloc o) (fun f => f))
  have hc1 := fun o => cell_alloc hc o
  clear hc hP hF
  go_enter Tryz.func178, Tryz.ntmps178
  go_wp2_with (first
    | (go_at_call 248; refine (parO _ _ _ _ _).mono ?_; rintro e w1 ⟨rfl, hx1⟩; have hb1 := hx1.blkNo (blk_new _ _); have k0 : ∀ o, (w1.alloc o).cell? ⟨w.heap.size, 0, none⟩ = some (.slice none 0 0) := fun o => cell_alloc (blk_cell hb1 0) o; have f0 : ∀ o, (w1.alloc o).frozen? ⟨w.heap.size, 0, none⟩ = false := fun o => frz_alloc (lt_of_blk hb1) (blk_frz hb1 0) o; have HB1 := Lib.hid hb1; clear hb1; have HX1 := Lib.hid hx1; clear hx1)
    | (go_at_call 55; refine (newVec64 hn).mono ?_; rintro e w' ⟨rfl, rfl⟩))
  have h1 : ((w1.alloc (.cells (madeCells #[.int .u64 0] out) 44)).setCell ⟨w.heap.size, 0, none⟩ (.slice (some ⟨w1.heap.size, 0, none⟩) out out)).cell? ⟨w.heap.size, 0, none⟩ = some (.slice (some ⟨w1.heap.size, 0, none⟩) out out) := World.cell?_setCell_same _ _ _ (k0 _)
  have l1 : w.heap.size < w1.heap.size := lt_of_blk HB1.out
  refine bodyPost_ret (v := .agg #[.slice (some ⟨w1.heap.size, 0, none⟩) out out]) (by simp [results, Tryz.results178, go_sem, h1]) rfl ⟨_, rfl, ?_, ?_, ?_⟩
  · exact ((((Ext.refl w No).alloc _).transNo HX1.out).alloc _).set (.inl (Nat.le_refl _)) _
  · exact blk_set_ne (blk_new _ _) (Nat.ne_of_gt l1) _
  · exact Nat.le_of_lt l1

theorem initCount {kb out : Nat} {w : World} (hn : out ≤ 1000) (hK : Kind 208 1 kb out w) : Calls Tryz.prog 172 #[.pointer (some ⟨kb, 0, none⟩)] w fun e w' =>
    ∃ vb, e = .returned (.agg #[.slice (some ⟨vb, 0, none⟩) out out]) ∧ Ext w w' No ∧ w'.heap[vb]? = some (.cells (madeCells #[.int .u64 0] out) 44 (0, 0)) ∧ w.heap.size ≤ vb := by
  have K1 := fun o => initCountA (w := w.alloc o) hn (hK.extNo ((Ext.refl w No).alloc o))
  have lk : kb < w.heap.size := by obtain ⟨fb, hc, -⟩ := hK; exact World.block_lt_of_cell? _ _ hc
  clear hK
  go_enter Tryz.func172, Tryz.ntmps172
  go_wp2_with (go_at_call 178; refine (K1 _).mono ?_; rintro e w1 ⟨vb, rfl, hx1, hv1, hle⟩; have hb1 := hx1.blkNo (blk_new _ _); have k0 : w1.cell? ⟨w.heap.size, 0, none⟩ = some (.slice none 0 0) := blk_cell hb1 0; have f0 := blk_frz hb1 0; have l1 : w.heap.size < vb := Nat.lt_of_lt_of_le (by simp) hle; have HV1 := Lib.hid hv1; clear hv1; have HB1 := Lib.hid hb1; clear hb1; have HX1 := Lib.hid hx1; clear hx1)
  have h1 : (w1.setCell ⟨w.heap.size, 0, none⟩ (.slice (some ⟨vb, 0, none⟩) out out)).cell? ⟨w.heap.size, 0, none⟩ = some (.slice (some ⟨vb, 0, none⟩) out out) := World.cell?_setCell_same _ _ _ k0
  refine bodyPost_ret (v := .agg #[.slice (some ⟨vb, 0, none⟩) out out]) (by simp [results, Tryz.results172, go_sem, h1]) rfl ⟨_, rfl, ?_, ?_, ?_⟩
  · exact (((Ext.refl w No).alloc _).transNo HX1.out).set (.inl (Nat.le_refl _)) _
  · exact blk_set_ne HV1.out (Nat.ne_of_gt l1) _
  · exact Nat.le_of_lt l1

set_option maxRecDepth 100000 in
theorem updCountA {kb gb ob vb xb n vc xc : Nat} {vs xs : List Nat} {w : World} {vt xt : TypeId} (hg : w.cell? ⟨gb, 0, none⟩ = some (.slice (some ⟨vb, 0, none⟩) n vc)) (ho : w.cell? ⟨ob, 0, none⟩ = some (.slice (some ⟨xb, 0, none⟩) n xc))
    (hlv : vs.length = n) (hlx : xs.length = n) (hv : ∀ i, i < n → vs.getD i 0 < P64) (hx : ∀ i, i < n → xs.getD i 0 < P64)
    (hbv : w.heap[vb]? = some (.cells (vecC enc64 vs).toArray vt (0, 0))) (hbx : w.heap[xb]? = some (.cells (vecC enc64 xs).toArray xt (0, 0))) (hne : xb ≠ vb) (hn : n ≤ 1000) :
    Calls Tryz.prog 179 #[.pointer (some ⟨kb, 0, none⟩), .pointer (some ⟨gb, 0, none⟩), .pointer (some ⟨ob, 0, none⟩)] w fun e w' =>
      e = .returned (.tuple #[]) ∧ Ext w w' (fun k => k = vb) ∧ w'.heap[vb]? = some (.cells (vecC enc64 (addN P64 vs xs)).toArray vt (0, 0)) := by
  have K2 := vecAdd64 (w := w.drew) (vc := vc) (xc := xc) hlv hlx hv hx hbv hbx hne hn
  clear hlv hlx hv hx hbv hbx
  go_enter Tryz.func179, Tryz.ntmps179
  go_wp2_with fail
  go_region_with (go_at_call 284; refine K2.mono ?_; rintro e w1 ⟨rfl, h1, h2⟩)
  all_goals (try go_wp2)
  all_goals (go_end0; exact ⟨rfl, ⟨h1.os, h1.tape, h1.output, h1.size, h1.block⟩, h2⟩)
theorem updCount {kb gb ob vb xb n vc xc : Nat} {vs xs : List Nat} {w : World} {vt xt : TypeId} (hg : w.cell? ⟨gb, 0, none⟩ = some (.slice (some ⟨vb, 0, none⟩) n vc)) (ho : w.cell? ⟨ob, 0, none⟩ = some (.slice (some ⟨xb, 0, none⟩) n xc))
    (hlv : vs.length = n) (hlx : xs.length = n) (hv : ∀ i, i < n → vs.getD i 0 < P64) (hx : ∀ i, i < n → xs.getD i 0 < P64)
    (hbv : w.heap[vb]? = some (.cells (vecC enc64 vs).toArray vt (0, 0))) (hbx : w.heap[xb]? = some (.cells (vecC enc64 xs).toArray xt (0, 0))) (hne : xb ≠ vb) (hn : n ≤ 1000) :
    Calls Tryz.prog 173 #[.pointer (some ⟨kb, 0, none⟩), .pointer (some ⟨gb, 0, none⟩), .pointer (some ⟨ob, 0, none⟩)] w fun e w' =>
      e = .returned (.tuple #[]) ∧ Ext w w' (fun k => k = vb) ∧ w'.heap[vb]? = some (.cells (vecC enc64 (addN P64 vs xs)).toArray vt (0, 0)) := by
  have K1 := updCountA (kb := kb) hg ho hlv hlx hv hx hbv hbx hne hn
  clear hg ho hlv hlx hv hx hbv hbx
  go_enter Tryz.func173, Tryz.ntmps173
  go_wp2_with (go_at_call 179; refine K1.mono ?_; rintro e w1 ⟨rfl, h1, h2⟩; have H2 := Lib.hid h2; clear h2)
  go_end0
  exact ⟨rfl, h1, H2.out⟩

theorem initSumA {kb out : Nat} {w : World} (hn : out ≤ 1000) (hK : Kind 215 1 kb out w) : Calls Tryz.prog 189 #[.pointer (some ⟨kb, 0, none⟩)] w fun e w' =>
    ∃ vb, e = .returned (.agg #[.slice (some ⟨vb, 0, none⟩) out out]) ∧ Ext w w' No ∧ w'.heap[vb]? = some (.cells (madeCells #[.int .u64 0] out) 44 (0, 0)) ∧ w.heap.size ≤ vb := by
  obtain ⟨fb, hc, hF, -⟩ := hK
  obtain ⟨a, j, c, la, lj, lc, hP⟩ := hF.par
  have lk := World.block_lt_of_cell? _ _ hc
  have hm : ∀ o, (method 486 148 (.pointer (some ⟨fb, 0, none⟩)) "OutputLength").run Tryz.prog (w.alloc o) = .ok (248, params a j c out) (w.alloc o) := fun o => meth148OutputLength (hP _ No ((Ext.refl w No).alloc o) (fun f => f))
  have hc1 := fun o => cell_alloc hc o
  clear hc hP hF
  go_enter Tryz.func189, Tryz.ntmps189
  go_wp2_with (first
    | (go_at_call 248; refine (parO _ _ _ _ _).mono ?_; rintro e w1 ⟨rfl, hx1⟩; have hb1 := hx1.blkNo (blk_new _ _); have k0 : ∀ o, (w1.alloc o).cell? ⟨w.heap.size, 0, none⟩ = some (.slice none 0 0) := fun o => cell_alloc (blk_cell hb1 0) o; have f0 : ∀ o, (w1.alloc o).frozen? ⟨w.heap.size, 0, none⟩ = false := fun o => frz_alloc (lt_of_blk hb1) (blk_frz hb1 0) o; have HB1 := Lib.hid hb1; clear hb1; have HX1 := Lib.hid hx1; clear hx1)
    | (go_at_call 55; refine (newVec64 hn).mono ?_; rintro e w' ⟨rfl, rfl⟩))
  have h1 : ((w1.alloc (.cells (madeCells #[.int .u64 0] out) 44)).setCell ⟨w.heap.size, 0, none⟩ (.slice (some ⟨w1.heap.size, 0, none⟩) out out)).cell? ⟨w.heap.size, 0, none⟩ = some (.slice (some ⟨w1.heap.size, 0, none⟩) out out) := World.cell?_setCell_same _ _ _ (k0 _)
  have l1 : w.heap.size < w1.heap.size := lt_of_blk HB1.out
  refine bodyPost_ret (v := .agg #[.slice (some ⟨w1.heap.size, 0, none⟩) out out]) (by simp [results, Tryz.results189, go_sem, h1]) rfl ⟨_, rfl, ?_, ?_, ?_⟩
  · exact ((((Ext.refl w No).alloc _).transNo HX1.out).alloc _).set (.inl (Nat.le_refl _)) _
  · exact blk_set_ne (blk_new _ _) (Nat.ne_of_gt l1) _
  · exact Nat.le_of_lt l1

theorem initSum {kb out : Nat} {w : World} (hn : out ≤ 1000) (hK : Kind 215 1 kb out w) : Calls Tryz.prog 183 #[.pointer (some ⟨kb, 0, none⟩)] w fun e w' =>
    ∃ vb, e = .returned (.agg #[.slice (some ⟨vb, 0, none⟩) out out]) ∧ Ext w w' No ∧ w'.heap[vb]? = some (.cells (madeCells #[.int .u64 0] out) 44 (0, 0)) ∧ w.heap.size ≤ vb := by
  have K1 := fun o => initSumA (w := w.alloc o) hn (hK.extNo ((Ext.refl w No).alloc o))
  have lk : kb < w.heap.size := by obtain ⟨fb, hc, -⟩ := hK; exact World.block_lt_of_cell? _ _ hc
  clear hK
  go_enter Tryz.func183, Tryz.ntmps183
  go_wp2_with (go_at_call 189; refine (K1 _).mono ?_; rintro e w1 ⟨vb, rfl, hx1, hv1, hle⟩; have hb1 := hx1.blkNo (blk_new _ _); have k0 : w1.cell? ⟨w.heap.size, 0, none⟩ = some (.slice none 0 0) := blk_cell hb1 0; have f0 := blk_frz hb1 0; have l1 : w.heap.size < vb := Nat.lt_of_lt_of_le (by simp) hle; have HV1 := Lib.hid hv1; clear hv1; have HB1 := Lib.hid hb1; clear hb1; have HX1 := Lib.hid hx1; clear hx1)
  have h1 : (w1.setCell ⟨w.heap.size, 0, none⟩ (.slice (some ⟨vb, 0, none⟩) out out)).cell? ⟨w.heap.size, 0, none⟩ = some (.slice (some ⟨vb, 0, none⟩) out out) := World.cell?_setCell_same _ _ _ k0
  refine bodyPost_ret (v := .agg #[.slice (some ⟨vb, 0, none⟩) out out]) (by simp [results, Tryz.results183, go_sem, h1]) rfl ⟨_, rfl, ?_, ?_, ?_⟩
  · exact (((Ext.refl w No).alloc _).transNo HX1.out).set (.inl (Nat.le_refl _)) _
  · exact blk_set_ne HV1.out (Nat.ne_of_gt l1) _
  · exact Nat.le_of_lt l1

set_option maxRecDepth 100000 in
theorem updSumA {kb gb ob vb xb n vc xc : Nat} {vs xs : List Nat} {w : World} {vt xt : TypeId} (hg : w.cell? ⟨gb, 0, none⟩ = some (.slice (some ⟨vb, 0, none⟩) n vc)) (ho : w.cell? ⟨ob, 0, none⟩ = some (.slice (some ⟨xb, 0, none⟩) n xc))
    (hlv : vs.length = n) (hlx : xs.length = n) (hv : ∀ i, i < n → vs.getD i 0 < P64) (hx : ∀ i, i < n → xs.getD i 0 < P64)
    (hbv : w.heap[vb]? = some (.cells (vecC enc64 vs).toArray vt (0, 0))) (hbx : w.heap[xb]? = some (.cells (vecC enc64 xs).toArray xt (0, 0))) (hne : xb ≠ vb) (hn : n ≤ 1000) :
    Calls Tryz.prog 190 #[.pointer (some ⟨kb, 0, none⟩), .pointer (some ⟨gb, 0, none⟩), .pointer (some ⟨ob, 0, none⟩)] w fun e w' =>
      e = .returned (.tuple #[]) ∧ Ext w w' (fun k => k = vb) ∧ w'.heap[vb]? = some (.cells (vecC enc64 (addN P64 vs xs)).toArray vt (0, 0)) := by
  have K2 := vecAdd64 (w := w.drew) (vc := vc) (xc := xc) hlv hlx hv hx hbv hbx hne hn
  clear hlv hlx hv hx hbv hbx
  go_enter Tryz.func190, Tryz.ntmps190
  go_wp2_with fail
  go_region_with (go_at_call 284; refine K2.mono ?_; rintro e w1 ⟨rfl, h1, h2⟩)
  all_goals (try go_wp2)
  all_goals (go_end0; exact ⟨rfl, ⟨h1.os, h1.tape, h1.output, h1.size, h1.block⟩, h2⟩)
theorem updSum {kb gb ob vb xb n vc xc : Nat} {vs xs : List Nat} {w : World} {vt xt : TypeId} (hg : w.cell? ⟨gb, 0, none⟩ = some (.slice (some ⟨vb, 0, none⟩) n vc)) (ho : w.cell? ⟨ob, 0, none⟩ = some (.slice (some ⟨xb, 0, none⟩) n xc))
    (hlv : vs.length = n) (hlx : xs.length = n) (hv : ∀ i, i < n → vs.getD i 0 < P64) (hx : ∀ i, i < n → xs.getD i 0 < P64)
    (hbv : w.heap[vb]? = some (.cells (vecC enc64 vs).toArray vt (0, 0))) (hbx : w.heap[xb]? = some (.cells (vecC enc64 xs).toArray xt (0, 0))) (hne : xb ≠ vb) (hn : n ≤ 1000) :
    Calls Tryz.prog 184 #[.pointer (some ⟨kb, 0, none⟩), .pointer (some ⟨gb, 0, none⟩), .pointer (some ⟨ob, 0, none⟩)] w fun e w' =>
      e = .returned (.tuple #[]) ∧ Ext w w' (fun k => k = vb) ∧ w'.heap[vb]? = some (.cells (vecC enc64 (addN P64 vs xs)).toArray vt (0, 0)) := by
  have K1 := updSumA (kb := kb) hg ho hlv hlx hv hx hbv hbx hne hn
  clear hg ho hlv hlx hv hx hbv hbx
  go_enter Tryz.func184, Tryz.ntmps184
  go_wp2_with (go_at_call 190; refine K1.mono ?_; rintro e w1 ⟨rfl, h1, h2⟩; have H2 := Lib.hid h2; clear h2)
  go_end0
  exact ⟨rfl, h1, H2.out⟩

theorem initSvA {kb out : Nat} {w : World} (hn : out ≤ 1000) (hK : Kind 238 2 kb out w) : Calls Tryz.prog 209 #[.pointer (some ⟨kb, 0, none⟩)] w fun e w' =>
    ∃ vb, e = .returned (.agg #[.slice (some ⟨vb, 0, none⟩) out out]) ∧ Ext w w' No ∧ w'.heap[vb]? = some (.cells (madeCells #[.int .u64 0, .int .u64 0] (out * 2)) 52 (0, 0)) ∧ w.heap.size ≤ vb := by
  obtain ⟨fb, hc, hF, -⟩ := hK
  obtain ⟨a, j, c, la, lj, lc, hP⟩ := hF.par
  have lk := World.block_lt_of_cell? _ _ hc
  have hm : ∀ o, (method 486 161 (.pointer (some ⟨fb, 0, none⟩)) "OutputLength").run Tryz.prog (w.alloc o) = .ok (248, params a j c out) (w.alloc o) := fun o => meth161OutputLength (hP _ No ((Ext.refl w No).alloc o) (fun f => f))
  have hc1 := fun o => cell_alloc hc o
  clear hc hP hF
  go_enter Tryz.func209, Tryz.ntmps209
  go_wp2_with (first
    | (go_at_call 248; refine (parO _ _ _ _ _).mono ?_; rintro e w1 ⟨rfl, hx1⟩; have hb1 := hx1.blkNo (blk_new _ _); have k0 : ∀ o, (w1.alloc o).cell? ⟨w.heap.size, 0, none⟩ = some (.slice none 0 0) := fun o => cell_alloc (blk_cell hb1 0) o; have f0 : ∀ o, (w1.alloc o).frozen? ⟨w.heap.size, 0, none⟩ = false := fun o => frz_alloc (lt_of_blk hb1) (blk_frz hb1 0) o; have HB1 := Lib.hid hb1; clear hb1; have HX1 := Lib.hid hx1; clear hx1)
    | (go_at_call 65; refine (newVec128 hn).mono ?_; rintro e w' ⟨rfl, rfl⟩))
  have h1 : ((w1.alloc (.cells (madeCells #[.int .u64 0, .int .u64 0] (out * 2)) 52)).setCell ⟨w.heap.size, 0, none⟩ (.slice (some ⟨w1.heap.size, 0, none⟩) out out)).cell? ⟨w.heap.size, 0, none⟩ = some (.slice (some ⟨w1.heap.size, 0, none⟩) out out) := World.cell?_setCell_same _ _ _ (k0 _)
  have l1 : w.heap.size < w1.heap.size := lt_of_blk HB1.out
  refine bodyPost_ret (v := .agg #[.slice (some ⟨w1.heap.size, 0, none⟩) out out]) (by simp [results, Tryz.results209, go_sem, h1]) rfl ⟨_, rfl, ?_, ?_, ?_⟩
  · exact ((((Ext.refl w No).alloc _).transNo HX1.out).alloc _).set (.inl (Nat.le_refl _)) _
  · exact blk_set_ne (blk_new _ _) (Nat.ne_of_gt l1) _
  · exact Nat.le_of_lt l1

theorem initSv {kb out : Nat} {w : World} (hn : out ≤ 1000) (hK : Kind 238 2 kb out w) : Calls Tryz.prog 203 #[.pointer (some ⟨kb, 0, none⟩)] w fun e w' =>
    ∃ vb, e = .returned (.agg #[.slice (some ⟨vb, 0, none⟩) out out]) ∧ Ext w w' No ∧ w'.heap[vb]? = some (.cells (madeCells #[.int .u64 0, .int .u64 0] (out * 2)) 52 (0, 0)) ∧ w.heap.size ≤ vb := by
  have K1 := fun o => initSvA (w := w.alloc o) hn (hK.extNo ((Ext.refl w No).alloc o))
  have lk : kb < w.heap.size := by obtain ⟨fb, hc, -⟩ := hK; exact World.block_lt_of_cell? _ _ hc
  clear hK
  go_enter Tryz.func203, Tryz.ntmps203
  go_wp2_with (go_at_call 209; refine (K1 _).mono ?_; rintro e w1 ⟨vb, rfl, hx1, hv1, hle⟩; have hb1 := hx1.blkNo (blk_new _ _); have k0 : w1.cell? ⟨w.heap.size, 0, none⟩ = some (.slice none 0 0) := blk_cell hb1 0; have f0 := blk_frz hb1 0; have l1 : w.heap.size < vb := Nat.lt_of_lt_of_le (by simp) hle; have HV1 := Lib.hid hv1; clear hv1; have HB1 := Lib.hid hb1; clear hb1; have HX1 := Lib.hid hx1; clear hx1)
  have h1 : (w1.setCell ⟨w.heap.size, 0, none⟩ (.slice (some ⟨vb, 0, none⟩) out out)).cell? ⟨w.heap.size, 0, none⟩ = some (.slice (some ⟨vb, 0, none⟩) out out) := World.cell?_setCell_same _ _ _ k0
  refine bodyPost_ret (v := .agg #[.slice (some ⟨vb, 0, none⟩) out out]) (by simp [results, Tryz.results203, go_sem, h1]) rfl ⟨_, rfl, ?_, ?_, ?_⟩
  · exact (((Ext.refl w No).alloc _).transNo HX1.out).set (.inl (Nat.le_refl _)) _
  · exact blk_set_ne HV1.out (Nat.ne_of_gt l1) _
  · exact Nat.le_of_lt l1

set_option maxRecDepth 100000 in
theorem updSvA {kb gb ob vb xb n vc xc : Nat} {vs xs : List Nat} {w : World} {vt xt : TypeId} (hg : w.cell? ⟨gb, 0, none⟩ = some (.slice (some ⟨vb, 0, none⟩) n vc)) (ho : w.cell? ⟨ob, 0, none⟩ = some (.slice (some ⟨xb, 0, none⟩) n xc))
    (hlv : vs.length = n) (hlx : xs.length = n) (hv : ∀ i, i < n → vs.getD i 0 < P128) (hx : ∀ i, i < n → xs.getD i 0 < P128)
    (hbv : w.heap[vb]? = some (.cells (vecC enc128 vs).toArray vt (0, 0))) (hbx : w.heap[xb]? = some (.cells (vecC enc128 xs).toArray xt (0, 0))) (hne : xb ≠ vb) (hn : n ≤ 1000) :
    Calls Tryz.prog 210 #[.pointer (some ⟨kb, 0, none⟩), .pointer (some ⟨gb, 0, none⟩), .pointer (some ⟨ob, 0, none⟩)] w fun e w' =>
      e = .returned (.tuple #[]) ∧ Ext w w' (fun k => k = vb) ∧ w'.heap[vb]? = some (.cells (vecC enc128 (addN P128 vs xs)).toArray vt (0, 0)) := by
  have K2 := vecAdd128 (w := w.drew) (vc := vc) (xc := xc) hlv hlx hv hx hbv hbx hne hn
  clear hlv hlx hv hx hbv hbx
  go_enter Tryz.func210, Tryz.ntmps210
  go_wp2_with fail
  go_region_with (go_at_call 287; refine K2.mono ?_; rintro e w1 ⟨rfl, h1, h2⟩)
  all_goals (try go_wp2)
  all_goals (go_end0; exact ⟨rfl, ⟨h1.os, h1.tape, h1.output, h1.size, h1.block⟩, h2⟩)
theorem updSv {kb gb ob vb xb n vc xc : Nat} {vs xs : List Nat} {w : World} {vt xt : TypeId} (hg : w.cell? ⟨gb, 0, none⟩ = some (.slice (some ⟨vb, 0, none⟩) n vc)) (ho : w.cell? ⟨ob, 0, none⟩ = some (.slice (some ⟨xb, 0, none⟩) n xc))
    (hlv : vs.length = n) (hlx : xs.length = n) (hv : ∀ i, i < n → vs.getD i 0 < P128) (hx : ∀ i, i < n → xs.getD i 0 < P128)
    (hbv : w.heap[vb]? = some (.cells (vecC enc128 vs).toArray vt (0, 0))) (hbx : w.heap[xb]? = some (.cells (vecC enc128 xs).toArray xt (0, 0))) (hne : xb ≠ vb) (hn : n ≤ 1000) :
    Calls Tryz.prog 204 #[.pointer (some ⟨kb, 0, none⟩), .pointer (some ⟨gb, 0, none⟩), .pointer (some ⟨ob, 0, none⟩)] w fun e w' =>
      e = .returned (.tuple #[]) ∧ Ext w w' (fun k => k = vb) ∧ w'.heap[vb]? = some (.cells (vecC enc128 (addN P128 vs xs)).toArray vt (0, 0)) := by
  have K1 := updSvA (kb := kb) hg ho hlv hlx hv hx hbv hbx hne hn
  clear hg ho hlv hlx hv hx hbv hbx
  go_enter Tryz.func204, Tryz.ntmps204
  go_wp2_with (go_at_call 210; refine K1.mono ?_; rintro e w1 ⟨rfl, h1, h2⟩; have H2 := Lib.hid h2; clear h2)
  go_end0
  exact ⟨rfl, h1, H2.out⟩

theorem initHistA {kb out : Nat} {w : World} (hn : out ≤ 1000) (hK : Kind 242 2 kb out w) : Calls Tryz.prog 219 #[.pointer (some ⟨kb, 0, none⟩)] w fun e w' =>
    ∃ vb, e = .returned (.agg #[.slice (some ⟨vb, 0, none⟩) out out]) ∧ Ext w w' No ∧ w'.heap[vb]? = some (.cells (madeCells #[.int .u64 0, .int .u64 0] (out * 2)) 52 (0, 0)) ∧ w.heap.size ≤ vb := by
  obtain ⟨fb, hc, hF, -⟩ := hK
  obtain ⟨a, j, c, la, lj, lc, hP⟩ := hF.par
  have lk := World.block_lt_of_cell? _ _ hc
  have hm : ∀ o, (method 486 173 (.pointer (some ⟨fb, 0, none⟩)) "OutputLength").run Tryz.prog (w.alloc o) = .ok (248, params a j c out) (w.alloc o) := fun o => meth173OutputLength (hP _ No ((Ext.refl w No).alloc o) (fun f => f))
  have hc1 := fun o => cell_alloc hc o
  clear hc hP hF
  go_enter Tryz.func219, Tryz.ntmps219
  go_wp2_with (first
    | (go_at_call 248; refine (parO _ _ _ _ _).mono ?_; rintro e w1 ⟨rfl, hx1⟩; have hb1 := hx1.blkNo (blk_new _ _); have k0 : ∀ o, (w1.alloc o).cell? ⟨w.heap.size, 0, none⟩ = some (.slice none 0 0) := fun o => cell_alloc (blk_cell hb1 0) o; have f0 : ∀ o, (w1.alloc o).frozen? ⟨w.heap.size, 0, none⟩ = false := fun o => frz_alloc (lt_of_blk hb1) (blk_frz hb1 0) o; have HB1 := Lib.hid hb1; clear hb1; have HX1 := Lib.hid hx1; clear hx1)
    | (go_at_call 65; refine (newVec128 hn).mono ?_; rintro e w' ⟨rfl, rfl⟩))
  have h1 : ((w1.alloc (.cells (madeCells #[.int .u64 0, .int .u64 0] (out * 2)) 52)).setCell ⟨w.heap.size, 0, none⟩ (.slice (some ⟨w1.heap.size, 0, none⟩) out out)).cell? ⟨w.heap.size, 0, none⟩ = some (.slice (some ⟨w1.heap.size, 0, none⟩) out out) := World.cell?_setCell_same _ _ _ (k0 _)
  have l1 : w.heap.size < w1.heap.size := lt_of_blk HB1.out
  refine bodyPost_ret (v := .agg #[.slice (some ⟨w1.heap.size, 0, none⟩) out out]) (by simp [results, Tryz.results219, go_sem, h1]) rfl ⟨_, rfl, ?_, ?_, ?_⟩
  · exact ((((Ext.refl w No).alloc _).transNo HX1.out).alloc _).set (.inl (Nat.le_refl _)) _
  · exact blk_set_ne (blk_new _ _) (Nat.ne_of_gt l1) _
  · exact Nat.le_of_lt l1

theorem initHist {kb out : Nat} {w : World} (hn : out ≤ 1000) (hK : Kind 242 2 kb out w) : Calls Tryz.prog 213 #[.pointer (some ⟨kb, 0, none⟩)] w fun e w' =>
    ∃ vb, e = .returned (.agg #[.slice (some ⟨vb, 0, none⟩) out out]) ∧ Ext w w' No ∧ w'.heap[vb]? = some (.cells (madeCells #[.int .u64 0, .int .u64 0] (out * 2)) 52 (0, 0)) ∧ w.heap.size ≤ vb := by
  have K1 := fun o => initHistA (w := w.alloc o) hn (hK.extNo ((Ext.refl w No).alloc o))
  have lk : kb < w.heap.size := by obtain ⟨fb, hc, -⟩ := hK; exact World.block_lt_of_cell? _ _ hc
  clear hK
  go_enter Tryz.func213, Tryz.ntmps213
  go_wp2_with (go_at_call 219; refine (K1 _).mono ?_; rintro e w1 ⟨vb, rfl, hx1, hv1, hle⟩; have hb1 := hx1.blkNo (blk_new _ _); have k0 : w1.cell? ⟨w.heap.size, 0, none⟩ = some (.slice none 0 0) := blk_cell hb1 0; have f0 := blk_frz hb1 0; have l1 : w.heap.size < vb := Nat.lt_of_lt_of_le (by simp) hle; have HV1 := Lib.hid hv1; clear hv1; have HB1 := Lib.hid hb1; clear hb1; have HX1 := Lib.hid hx1; clear hx1)
  have h1 : (w1.setCell ⟨w.heap.size, 0, none⟩ (.slice (some ⟨vb, 0, none⟩) out out)).cell? ⟨w.heap.size, 0, none⟩ = some (.slice (some ⟨vb, 0, none⟩) out out) := World.cell?_setCell_same _ _ _ k0
  refine bodyPost_ret (v := .agg #[.slice (some ⟨vb, 0, none⟩) out out]) (by simp [results, Tryz.results213, go_sem, h1]) rfl ⟨_, rfl, ?_, ?_, ?_⟩
  · exact (((Ext.refl w No).alloc _).transNo HX1.out).set (.inl (Nat.le_refl _)) _
  · exact blk_set_ne HV1.out (Nat.ne_of_gt l1) _
  · exact Nat.le_of_lt l1

set_option maxRecDepth 100000 in
theorem updHistA {kb gb ob vb xb n vc xc : Nat} {vs xs : List Nat} {w : World} {vt xt : TypeId} (hg : w.cell? ⟨gb, 0, none⟩ = some (.slice (some ⟨vb, 0, none⟩) n vc)) (ho : w.cell? ⟨ob, 0, none⟩ = some (.slice (some ⟨xb, 0, none⟩) n xc))
    (hlv : vs.length = n) (hlx : xs.length = n) (hv : ∀ i, i < n → vs.getD i 0 < P128) (hx : ∀ i, i < n → xs.getD i 0 < P128)
    (hbv : w.heap[vb]? = some (.cells (vecC enc128 vs).toArray vt (0, 0))) (hbx : w.heap[xb]? = some (.cells (vecC enc128 xs).toArray xt (0, 0))) (hne : xb ≠ vb) (hn : n ≤ 1000) :
    Calls Tryz.prog 220 #[.pointer (some ⟨kb, 0, none⟩), .pointer (some ⟨gb, 0, none⟩), .pointer (some ⟨ob, 0, none⟩)] w fun e w' =>
      e = .returned (.tuple #[]) ∧ Ext w w' (fun k => k = vb) ∧ w'.heap[vb]? = some (.cells (vecC enc128 (addN P128 vs xs)).toArray vt (0, 0)) := by
  have K2 := vecAdd128 (w := w.drew) (vc := vc) (xc := xc) hlv hlx hv hx hbv hbx hne hn
  clear hlv hlx hv hx hbv hbx
  go_enter Tryz.func220, Tryz.ntmps220
  go_wp2_with fail
  go_region_with (go_at_call 287; refine K2.mono ?_; rintro e w1 ⟨rfl, h1, h2⟩)
  all_goals (try go_wp2)
  all_goals (go_end0; exact ⟨rfl, ⟨h1.os, h1.tape, h1.output, h1.size, h1.block⟩, h2⟩)
theorem updHist {kb gb ob vb xb n vc xc : Nat} {vs xs : List Nat} {w : World} {vt xt : TypeId} (hg : w.cell? ⟨gb, 0, none⟩ = some (.slice (some ⟨vb, 0, none⟩) n vc)) (ho : w.cell? ⟨ob, 0, none⟩ = some (.slice (some ⟨xb, 0, none⟩) n xc))
    (hlv : vs.length = n) (hlx : xs.length = n) (hv : ∀ i, i < n → vs.getD i 0 < P128) (hx : ∀ i, i < n → xs.getD i 0 < P128)
    (hbv : w.heap[vb]? = some (.cells (vecC enc128 vs).toArray vt (0, 0))) (hbx : w.heap[xb]? = some (.cells (vecC enc128 xs).toArray xt (0, 0))) (hne : xb ≠ vb) (hn : n ≤ 1000) :
    Calls Tryz.prog 214 #[.pointer (some ⟨kb, 0, none⟩), .pointer (some ⟨gb, 0, none⟩), .pointer (some ⟨ob, 0, none⟩)] w fun e w' =>
      e = .returned (.tuple #[]) ∧ Ext w w' (fun k => k = vb) ∧ w'.heap[vb]? = some (.cells (vecC enc128 (addN P128 vs xs)).toArray vt (0, 0)) := by
  have K1 := updHistA (kb := kb) hg ho hlv hlx hv hx hbv hbx hne hn
  clear hg ho hlv hlx hv hx hbv hbx
  go_enter Tryz.func214, Tryz.ntmps214
  go_wp2_with (go_at_call 220; refine K1.mono ?_; rintro e w1 ⟨rfl, h1, h2⟩; have H2 := Lib.hid h2; clear h2)
  go_end0
  exact ⟨rfl, h1, H2.out⟩

theorem initMhcvA {kb out : Nat} {w : World} (hn : out ≤ 1000) (hK : Kind 246 2 kb out w) : Calls Tryz.prog 229 #[.pointer (some ⟨kb, 0, none⟩)] w fun e w' =>
    ∃ vb, e = .returned (.agg #[.slice (some ⟨vb, 0, none⟩) out out]) ∧ Ext w w' No ∧ w'.heap[vb]? = some (.cells (madeCells #[.int .u64 0, .int .u64 0] (out * 2)) 52 (0, 0)) ∧ w.heap.size ≤ vb := by
  obtain ⟨fb, hc, hF, -⟩ := hK
  obtain ⟨a, j, c, la, lj, lc, hP⟩ := hF.par
  have lk := World.block_lt_of_cell? _ _ hc
  have hm : ∀ o, (method 486 181 (.pointer (some ⟨fb, 0, none⟩)) "OutputLength").run Tryz.prog (w.alloc o) = .ok (248, params a j c out) (w.alloc o) := fun o => meth181OutputLength (hP _ No ((Ext.refl w No).alloc o) (fun f => f))
  have hc1 := fun o => cell_alloc hc o
  clear hc hP hF
  go_enter Tryz.func229, Tryz.ntmps229
  go_wp2_with (first
    | (go_at_call 248; refine (parO _ _ _ _ _).mono ?_; rintro e w1 ⟨rfl, hx1⟩; have hb1 := hx1.blkNo (blk_new _ _); have k0 : ∀ o, (w1.alloc o).cell? ⟨w.heap.size, 0, none⟩ = some (.slice none 0 0) := fun o => cell_alloc (blk_cell hb1 0) o; have f0 : ∀ o, (w1.alloc o).frozen? ⟨w.heap.size, 0, none⟩ = false := fun o => frz_alloc (lt_of_blk hb1) (blk_frz hb1 0) o; have HB1 := Lib.hid hb1; clear hb1; have HX1 := Lib.hid hx1; clear hx1)
    | (go_at_call 65; refine (newVec128 hn).mono ?_; rintro e w' ⟨rfl, rfl⟩))
  have h1 : ((w1.alloc (.cells (madeCells #[.int .u64 0, .int .u64 0] (out * 2)) 52)).setCell ⟨w.heap.size, 0, none⟩ (.slice (some ⟨w1.heap.size, 0, none⟩) out out)).cell? ⟨w.heap.size, 0, none⟩ = some (.slice (some ⟨w1.heap.size, 0, none⟩) out out) := World.cell?_setCell_same _ _ _ (k0 _)
  have l1 : w.heap.size < w1.heap.size := lt_of_blk HB1.out
  refine bodyPost_ret (v := .agg #[.slice (some ⟨w1.heap.size, 0, none⟩) out out]) (by simp [results, Tryz.results229, go_sem, h1]) rfl ⟨_, rfl, ?_, ?_, ?_⟩
  · exact ((((Ext.refl w No).alloc _).transNo HX1.out).alloc _).set (.inl (Nat.le_refl _)) _
  · exact blk_set_ne (blk_new _ _) (Nat.ne_of_gt l1) _
  · exact Nat.le_of_lt l1

theorem initMhcv {kb out : Nat} {w : World} (hn : out ≤ 1000) (hK : Kind 246 2 kb out w) : Calls Tryz.prog 223 #[.pointer (some ⟨kb, 0, none⟩)] w fun e w' =>
    ∃ vb, e = .returned (.agg #[.slice (some ⟨vb, 0, none⟩) out out]) ∧ Ext w w' No ∧ w'.heap[vb]? = some (.cells (madeCells #[.int .u64 0, .int .u64 0] (out * 2)) 52 (0, 0)) ∧ w.heap.size ≤ vb := by
  have K1 := fun o => initMhcvA (w := w.alloc o) hn (hK.extNo ((Ext.refl w No).alloc o))
  have lk : kb < w.heap.size := by obtain ⟨fb, hc, -⟩ := hK; exact World.block_lt_of_cell? _ _ hc
  clear hK
  go_enter Tryz.func223, Tryz.ntmps223
  go_wp2_with (go_at_call 229; refine (K1 _).mono ?_; rintro e w1 ⟨vb, rfl, hx1, hv1, hle⟩; have hb1 := hx1.blkNo (blk_new _ _); have k0 : w1.cell? ⟨w.heap.size, 0, none⟩ = some (.slice none 0 0) := blk_cell hb1 0; have f0 := blk_frz hb1 0; have l1 : w.heap.size < vb := Nat.lt_of_lt_of_le (by simp) hle; have HV1 := Lib.hid hv1; clear hv1; have HB1 := Lib.hid hb1; clear hb1; have HX1 := Lib.hid hx1; clear hx1)
  have h1 : (w1.setCell ⟨w.heap.size, 0, none⟩ (.slice (some ⟨vb, 0, none⟩) out out)).cell? ⟨w.heap.size, 0, none⟩ = some (.slice (some ⟨vb, 0, none⟩) out out) := World.cell?_setCell_same _ _ _ k0
  refine bodyPost_ret (v := .agg #[.slice (some ⟨vb, 0, none⟩) out out]) (by simp [results, Tryz.results223, go_sem, h1]) rfl ⟨_, rfl, ?_, ?_, ?_⟩
  · exact (((Ext.refl w No).alloc _).transNo HX1.out).set (.inl (Nat.le_refl _)) _
  · exact blk_set_ne HV1.out (Nat.ne_of_gt l1) _
  · exact Nat.le_of_lt l1

set_option maxRecDepth 100000 in
theorem updMhcvA {kb gb ob vb xb n vc xc : Nat} {vs xs : List Nat} {w : World} {vt xt : TypeId} (hg : w.cell? ⟨gb, 0, none⟩ = some (.slice (some ⟨vb, 0, none⟩) n vc)) (ho : w.cell? ⟨ob, 0, none⟩ = some (.slice (some ⟨xb, 0, none⟩) n xc))
    (hlv : vs.length = n) (hlx : xs.length = n) (hv : ∀ i, i < n → vs.getD i 0 < P128) (hx : ∀ i, i < n → xs.getD i 0 < P128)
    (hbv : w.heap[vb]? = some (.cells (vecC enc128 vs).toArray vt (0, 0))) (hbx : w.heap[xb]? = some (.cells (vecC enc128 xs).toArray xt (0, 0))) (hne : xb ≠ vb) (hn : n ≤ 1000) :
    Calls Tryz.prog 230 #[.pointer (some ⟨kb, 0, none⟩), .pointer (some ⟨gb, 0, none⟩), .pointer (some ⟨ob, 0, none⟩)] w fun e w' =>
      e = .returned (.tuple #[]) ∧ Ext w w' (fun k => k = vb) ∧ w'.heap[vb]? = some (.cells (vecC enc128 (addN P128 vs xs)).toArray vt (0, 0)) := by
  have K2 := vecAdd128 (w := w.drew) (vc := vc) (xc := xc) hlv hlx hv hx hbv hbx hne hn
  clear hlv hlx hv hx hbv hbx
  go_enter Tryz.func230, Tryz.ntmps230
  go_wp2_with fail
  go_region_with (go_at_call 287; refine K2.mono ?_; rintro e w1 ⟨rfl, h1, h2⟩)
  all_goals (try go_wp2)
  all_goals (go_end0; exact ⟨rfl, ⟨h1.os, h1.tape, h1.output, h1.size, h1.block⟩, h2⟩)
theorem updMhcv {kb gb ob vb xb n vc xc : Nat} {vs xs : List Nat} {w : World} {vt xt : TypeId} (hg : w.cell? ⟨gb, 0, none⟩ = some (.slice (some ⟨vb, 0, none⟩) n vc)) (ho : w.cell? ⟨ob, 0, none⟩ = some (.slice (some ⟨xb, 0, none⟩) n xc))
    (hlv : vs.length = n) (hlx : xs.length = n) (hv : ∀ i, i < n → vs.getD i 0 < P128) (hx : ∀ i, i < n → xs.getD i 0 < P128)
    (hbv : w.heap[vb]? = some (.cells (vecC enc128 vs).toArray vt (0, 0))) (hbx : w.heap[xb]? = some (.cells (vecC enc128 xs).toArray xt (0, 0))) (hne : xb ≠ vb) (hn : n ≤ 1000) :
    Calls Tryz.prog 224 #[.pointer (some ⟨kb, 0, none⟩), .pointer (some ⟨gb, 0, none⟩), .pointer (some ⟨ob, 0, none⟩)] w fun e w' =>
      e = .returned (.tuple #[]) ∧ Ext w w' (fun k => k = vb) ∧ w'.heap[vb]? = some (.cells (vecC enc128 (addN P128 vs xs)).toArray vt (0, 0)) := by
  have K1 := updMhcvA (kb := kb) hg ho hlv hlx hv hx hbv hbx hne hn
  clear hg ho hlv hlx hv hx hbv hbx
  go_enter Tryz.func224, Tryz.ntmps224
  go_wp2_with (go_at_call 230; refine K1.mono ?_; rintro e w1 ⟨rfl, h1, h2⟩; have H2 := Lib.hid h2; clear h2)
  go_end0
  exact ⟨rfl, h1, H2.out⟩
end Go.Proofs.YtlmmdldjfpdcfaaGreatDoor
