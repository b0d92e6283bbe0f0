/-
  spec.Add.
-/
import Derived.Test.YtlmmdldjfpdcfaaGreatDoorSpecE
import Derived.Test.YtlmmdldjfpdcfaaGreatDoorSpecI
import Derived.Test.YtlmmdldjfpdcfaaGreatDoorSpecC
import Derived.Test.YtlmmdldjfpdcfaaGreatDoorM30
import Derived.Lib.SmallJoins
namespace Go.Proofs.YtlmmdldjfpdcfaaGreatDoor
open Go.RowKit Go.Joins

theorem makeF {n : Nat} (hn : n ≤ 16) (w : World) : (Instr.makeSlice 59 (.int .i64 (n : Nat)) (.int .i64 (n : Nat))).run Tryz.prog w =
    .ok (.slice (some ⟨w.heap.size, 0, none⟩) n n) (w.alloc (.cells (vecC enc128 (List.replicate n 0)).toArray 53)) := by
  obtain ⟨i, hi, hz, hs, hb⟩ := of_info info53
  have h := run_make w 59 53 i _ Tryz.underlying59 hi hz .i64 .i64 n n (by omega) (by omega) (by rw [hb]; omega) (by omega)
  rw [← zeros128]
  simpa [hs, Value.cells] using h
theorem Gro.open' {w0 : World} {e : TypeId} {size : Nat} {v : Value} {n : Nat} {xs : List Value} {w : World} (h : Gro w0 e size v n xs w) : ∃ g cap, v = .slice (some ⟨g, 0, none⟩) n cap ∧ w0.heap.size ≤ g ∧ ∀ i, i < xs.length → w.cell? ⟨g, i, none⟩ = xs[i]? := by
  obtain ⟨h1, -, a, c, hv⟩ := h
  subst hv
  have h2 := h1
  rcases h1.2 with ⟨h0, -⟩ | ⟨g, cap, cur, h0, hle, -⟩
  · simp at h0
  · simp only [Value.slice.injEq, Option.some.injEq, true_and] at h0
    obtain ⟨rfl, rfl⟩ := h0
    exact ⟨g, c, rfl, hle, fun i hi => h2.cellAt i (by rw [← h2.1]; exact hi)⟩
theorem specAdd' {a b r0 r1 x sz : Nat} (p : Nat) (w : World) (ha : a < p) (hb : b < p) (hp : p < R128) : Calls Tryz.prog 23 #[.agg #[.int .u64 (lw p), .int .u64 (hw p), .int .i64 (sz : Nat), .int .u64 (r0 : Nat), .int .u64 (r1 : Nat), .int .i64 (x : Nat)], .agg #[.int .u64 (lw a), .int .u64 (hw a)], .agg #[.int .u64 (lw b), .int .u64 (hw b)]] w fun e w' => e = .returned (.agg #[.int .u64 (lw ((a + b) % p)), .int .u64 (hw ((a + b) % p))]) ∧ Ext w w' No := specAdd p w ha hb hp

theorem added_of {w w4 w9 : World} {sz p out : Nat} {ls : List (List Nat)} {v : Value} (hx : Ext w w4 No) (hG : Gro w4 5 1 v (out * sz) (u8s (flat (bytesL sz) (sumN p sz out id ls))) w9) (hg : ∀ i, i < ls.length → good sz p out (ls.getD i [])) :
    Added w sz p out id (bytesL sz) ls (.returned (.tuple #[v, .bool true])) w9 := by
  obtain ⟨g, cap, rfl, hle, hc⟩ := hG.open'
  have hl : (flat (bytesL sz) (sumN p sz out id ls)).length = out * sz := by rw [flat_len _ sz (fun v => bytesL_len sz v), sumN_len]
  refine ⟨hx.transNo hG.2.1, fun _ => ⟨g, cap, rfl, Nat.le_trans hx.size hle, fun i hi => ?_⟩, fun h => absurd hg h⟩
  rw [hc i (by rw [u8s_len, hl]; exact hi)]
  simp [u8s, List.getD, hl, hi]
set_option maxRecDepth 100000 in
set_option maxHeartbeats 4000000 in
theorem specAddG {k s n b c m L C out p sz r0 r1 x : Nat} {a : Option Addr} {u : Value} {ls : List (List Nat)} {w : World} (hp0 : 0 < p) (hp : p < R128) (ho0 : 0 < out) (ho : out ≤ 16)
    (h9 : ∀ w : World, Calls Tryz.prog 9 #[parV k s n b c m (.slice a L C)] w fun e w' => e = .returned (.bool true) ∧ Ext w w' No)
    (h21 : ∀ w : World, Calls Tryz.prog 21 #[parV k s n b c m (.slice a L C)] w fun e w' => CircV (lw p) (hw p) (sz : Nat) (r0 : Nat) (r1 : Nat) (x : Nat) out e ∧ Ext w w' No)
    (h22 : ∀ (w : World) (v : Value) (l : List Nat), IsB w v l → Calls Tryz.prog 22 #[.agg #[.int .u64 (lw p), .int .u64 (hw p), .int .i64 (sz : Nat), .int .u64 (r0 : Nat), .int .u64 (r1 : Nat), .int .i64 (x : Nat)], v, .int .i64 (out : Nat)] w fun e w' => Ext w w' No ∧
      (good sz p out l → ∃ v', e = .returned (.tuple #[v', .bool true]) ∧ Gro w 53 2 v' out (vecC enc128 (chunks sz out l)) w') ∧ (¬ good sz p out l → e = .returned (.tuple #[.slice none 0 0, .bool false])))
    (h24 : ∀ (w : World) (vb vc : Nat) (vs : List Nat) (vt : TypeId), vs.length = out → w.heap[vb]? = some (.cells (vecC enc128 vs).toArray vt (0, 0)) →
      Calls Tryz.prog 24 #[.agg #[.int .u64 (lw p), .int .u64 (hw p), .int .i64 (sz : Nat), .int .u64 (r0 : Nat), .int .u64 (r1 : Nat), .int .i64 (x : Nat)], .slice (some ⟨vb, 0, none⟩) out vc] w fun e w' => ∃ v, e = .returned v ∧ Gro w 5 1 v (out * sz) (u8s (flat (bytesL sz) vs)) w')
    (hS : IsBs w u ls) (hN : ls.length ≤ 300) : Calls Tryz.prog 11 #[parV k s n b c m (.slice a L C), u] w (Added w sz p out id (bytesL sz) ls) := by
  have H9 := Lib.hid h9; clear h9
  have H21 := Lib.hid h21; clear h21
  have H22 := Lib.hid h22; clear h22
  have H24 := Lib.hid h24; clear h24
  have hmk := fun w => makeF ho w
  have hS0 := hS
  obtain ⟨la, lc, rfl, hls⟩ := hS0
  obtain ⟨N, hNe⟩ : ∃ N, N = ls.length := ⟨_, rfl⟩
  rw [← hNe] at hls hN ⊢
  have HNE := Lib.hid hNe; clear hNe
  have HLS := Lib.hid hls; clear hls
  have HS := Lib.hid hS; clear hS
  unfold parV at *
  go_enter Tryz.func11, Tryz.ntmps11
  go_wp2_with (first
    | (go_at_call 9; refine (H9.out _).mono ?_; rintro e w1 ⟨rfl, hx1⟩; have q := hx1.blkNo (blk_new _ _); have c0 : w1.cell? ⟨w.heap.size, 0, none⟩ = some (.int .i64 (k : Nat)) := blk_cell q 0; have c1 : w1.cell? ⟨w.heap.size, 1, none⟩ = some (.int .i64 (s : Nat)) := blk_cell q 1; have c2 : w1.cell? ⟨w.heap.size, 2, none⟩ = some (.int .i64 (n : Nat)) := blk_cell q 2; have c3 : w1.cell? ⟨w.heap.size, 3, none⟩ = some (.int .i64 (b : Nat)) := blk_cell q 3; have c4 : w1.cell? ⟨w.heap.size, 4, none⟩ = some (.int .i64 (c : Nat)) := blk_cell q 4; have c5 : w1.cell? ⟨w.heap.size, 5, none⟩ = some (.int .u64 (m : Nat)) := blk_cell q 5; have c6 : w1.cell? ⟨w.heap.size, 6, none⟩ = some (.slice a L C) := blk_cell q 6; clear q; have hx01 := ((Ext.refl w No).alloc _).transNo hx1; have HX1 := Lib.hid hx01; clear hx1 hx01)
    | (go_at_call 21; refine (H21.out _).mono ?_; rintro e w2 ⟨⟨cs, rfl, hcs, hca, k7, k8, k9, k10, k11, k12, k15⟩, hx2⟩; have hx02 := HX1.out.transNo hx2; have HX2 := Lib.hid hx02; clear hx02 hx2; have HCS := Lib.hid hcs; clear hcs; have HCA := Lib.hid hca; clear hca)
    | ((with_reducible refine at_store 6 ?_); refine wpList_store_big _ rfl 57 (.tmp 6) (.tmp 16) rfl w2.heap.size 0 57 21 rfl cs rfl (Big.new _ _ rfl (by simp [Value.oneCell'])) (by rw [HCS.out]; decide) (by rw [HCS.out]; exact info57) HCA.out ?_; intro w3 hx3 _ hc3 _; have d7 := (hc3 7 (by rw [HCS.out]; decide)).trans k7; have d8 := (hc3 8 (by rw [HCS.out]; decide)).trans k8; have d9 := (hc3 9 (by rw [HCS.out]; decide)).trans k9; have d10 := (hc3 10 (by rw [HCS.out]; decide)).trans k10; have d11 := (hc3 11 (by rw [HCS.out]; decide)).trans k11; have d12 := (hc3 12 (by rw [HCS.out]; decide)).trans k12; have d15 := (hc3 15 (by rw [HCS.out]; decide)).trans k15; simp only [Nat.zero_add] at d7 d8 d9 d10 d11 d12 d15; have hx03 : Ext w w3 No := Ext.transNew (HX2.out.alloc _) hx3 HX2.out.size; clear hx3 hc3 k7 k8 k9 k10 k11 k12 k15; have HX3 := Lib.hid hx03; clear hx03))
  generalize w2.heap.size = cb at *
  have hcf : ∀ w', Ext w3 w' No → w'.cell? ⟨cb, 7, none⟩ = some (.int .u64 (lw p)) ∧ w'.cell? ⟨cb, 8, none⟩ = some (.int .u64 (hw p)) ∧ w'.cell? ⟨cb, 9, none⟩ = some (.int .i64 (sz : Nat)) ∧ w'.cell? ⟨cb, 10, none⟩ = some (.int .u64 (r0 : Nat)) ∧ w'.cell? ⟨cb, 11, none⟩ = some (.int .u64 (r1 : Nat)) ∧ w'.cell? ⟨cb, 12, none⟩ = some (.int .i64 (x : Nat)) ∧ w'.cell? ⟨cb, 15, none⟩ = some (.int .i64 (out : Nat)) := fun w' hx => ⟨hx.cellNo d7, hx.cellNo d8, hx.cellNo d9, hx.cellNo d10, hx.cellNo d11, hx.cellNo d12, hx.cellNo d15⟩
  have h0 : Hid (Ext w3 (w3.alloc (.cells (vecC enc128 (List.replicate out 0)).toArray 53)) No ∧ (w3.alloc (.cells (vecC enc128 (List.replicate out 0)).toArray 53)).heap[w3.heap.size]? = some (.cells (vecC enc128 (sumN p sz out id (ls.take 0))).toArray 53 (0, 0)) ∧ ∀ i, i < 0 → good sz p out (ls.getD i [])) :=
    ⟨(Ext.refl _ _).alloc _, blk_new _ _, fun i hi => by omega⟩
  have HCF := Lib.hid hcf; clear hcf d7 d8 d9 d10 d11 d12 d15
  go_loopw [8] (fun i wr => ∃ j : Nat, j ≤ N ∧ i = .int .i64 j ∧ Hid (Ext w3 wr No ∧ wr.heap[w3.heap.size]? = some (.cells (vecC enc128 (sumN p sz out id (ls.take j))).toArray 53 (0, 0)) ∧ ∀ i, i < j → good sz p out (ls.getD i []))) (fun i _ => N - (intOf i).toNat)
  case atStart => exact ⟨0, by omega, rfl, h0⟩
  case round =>
    obtain ⟨j, hj, rfl, hR⟩ := hrel
    obtain ⟨w4, hw4⟩ : ∃ w4, w4 = wr := ⟨_, rfl⟩
    subst hw4
    obtain ⟨hx4, hb4, hgd⟩ := hR.out
    obtain ⟨q7, q8, q9, q10, q11, q12, q15⟩ := HCF.out _ hx4
    have HGD := Lib.hid hgd; clear hgd
    have HB4 := Lib.hid hb4; clear hb4
    by_cases hjn : j = N
    · subst hjn
      go_wp2_with (go_at_call 24; refine (H24.out _ _ out _ _ (sumN_len _ _ _ _ _) HB4.out).mono ?_; rintro e w9 ⟨v9, rfl, hG⟩; have HG := Lib.hid hG; clear hG)
      go_ret2
      have e := HNE.out
      have hG := HG.out
      rw [List.take_of_length_le (by omega)] at hG
      exact added_of (HX3.out.transNo hx4) hG (fun i hi => HGD.out i (by omega))
    · have hlj : j < N := by omega
      obtain ⟨lb, lo, rfl, hh⟩ := HLS.out.resolve_left (by omega)
      obtain ⟨u, hu, hBu⟩ := hh j hlj
      have hS4 : ∀ w', Ext w4 w' No → (w'.cell? ⟨cb, 7, none⟩ = some (.int .u64 (lw p)) ∧ w'.cell? ⟨cb, 8, none⟩ = some (.int .u64 (hw p)) ∧ w'.cell? ⟨cb, 9, none⟩ = some (.int .i64 (sz : Nat)) ∧ w'.cell? ⟨cb, 10, none⟩ = some (.int .u64 (r0 : Nat)) ∧ w'.cell? ⟨cb, 11, none⟩ = some (.int .u64 (r1 : Nat)) ∧ w'.cell? ⟨cb, 12, none⟩ = some (.int .i64 (x : Nat)) ∧ w'.cell? ⟨cb, 15, none⟩ = some (.int .i64 (out : Nat))) ∧ w'.cell? ⟨lb, lo + j, none⟩ = some u := fun w' hx => ⟨HCF.out _ (hx4.transNo hx), hx.cellNo (hx4.cellNo (HX3.out.cellNo hu))⟩
      have HS4 := Lib.hid hS4; clear hS4
      have hBu4 := hBu.ext (HX3.out.transNo hx4)
      have HBU := Lib.hid hBu4; clear hBu4 hBu hh
      clear q7 q8 q9 q10 q11 q12 q15 hu
      have i1 : (0 : Int) ≤ (j : Int) := by omega
      have i2 : (j : Int) < (N : Int) := by omega
      by_cases hgj : good sz p out (ls.getD j [])
      · have HGJ := Lib.hid hgj; clear hgj
        go_wp2_with fail
        go_region_held3 (fun w' => (w'.cell? ⟨cb, 7, none⟩ = some (.int .u64 (lw p)) ∧ w'.cell? ⟨cb, 8, none⟩ = some (.int .u64 (hw p)) ∧ w'.cell? ⟨cb, 9, none⟩ = some (.int .i64 (sz : Nat)) ∧ w'.cell? ⟨cb, 10, none⟩ = some (.int .u64 (r0 : Nat)) ∧ w'.cell? ⟨cb, 11, none⟩ = some (.int .u64 (r1 : Nat)) ∧ w'.cell? ⟨cb, 12, none⟩ = some (.int .i64 (x : Nat)) ∧ w'.cell? ⟨cb, 15, none⟩ = some (.int .i64 (out : Nat))) ∧ w'.cell? ⟨lb, lo + j, none⟩ = some u) (first | with_reducible exact HS4.out _ hE5 | with_reducible exact HS4.out _ (Ext.refl _ _).drew)
          (first | (go_at_call 22; refine (H22.out _ u _ (HBU.out.ext (Ext.refl w4 No).drew)).mono ?_; rintro e w5 ⟨hx5, hg5, -⟩; have hE5 := (Ext.refl w4 No).drew.transNo hx5; obtain ⟨v5, rfl, hG5⟩ := hg5 HGJ.out; obtain ⟨g, gc, rfl, hgl, hgc⟩ := hG5.open'; have HG5 := Lib.hid hgc; clear hG5 hg5 hx5 hgc))
        have hlt := lt_of_blk HB4.out
        have hga : ¬ g = w3.heap.size := by have h : w4.drew.heap.size = w4.heap.size := rfl; omega
        have hga' : ¬ w3.heap.size = g := fun e => hga e.symm
        obtain ⟨vs, hvs⟩ : ∃ vs, vs = sumN p sz out id (ls.take j) := ⟨_, rfl⟩
        obtain ⟨xs, hxs⟩ : ∃ xs, xs = chunks sz out (ls.getD j []) := ⟨_, rfl⟩
        have HVL : Hid (vs.length = out) := by rw [hvs]; exact sumN_len _ _ _ _ _
        have HXL : Hid (xs.length = out) := by rw [hxs]; exact chunks_len _ _ _
        have HVP : Hid (∀ i, i < out → vs.getD i 0 < p) := by rw [hvs]; exact fun i hi => sumN_lt p sz out id hp0 _ i hi
        have HXP : Hid (∀ i, i < out → xs.getD i 0 < p) := by
          rw [hxs]
          intro i hi
          have h := good_chunk HGJ.out i hi
          simpa [chunks, List.getD, hi] using h
        have HEND : Hid (sumN p sz out id (ls.take (j + 1)) = addN p vs xs) := by
          have e := HNE.out
          rw [take_snocL _ _ (by omega), sumN_snoc, hvs, hxs, List.map_id]
          rfl
        rw [← hvs] at HB4
        rw [← hxs] at HG5
        have HE5 := Lib.hid hE5; clear hE5
        have hb5 := HE5.out.blkNo HB4.out
        have h05 : Hid (Ext w5 w5 (fun t => t = w3.heap.size) ∧ w5.heap[w3.heap.size]? = some (.cells (putL (vecC enc128 vs).toArray 0 (vecC enc128 ((addN p vs xs).take 0))) 53 (0, 0))) := ⟨Ext.refl _ _, hb5⟩
        have hE35 := hx4.transNo HE5.out
        have HE35 := Lib.hid hE35; clear hE35 hb5 hx4
        have hS5 : ∀ q, q < out → ∀ w', Ext w5 w' (fun t => t = w3.heap.size) → (w'.cell? ⟨cb, 7, none⟩ = some (.int .u64 (lw p)) ∧ w'.cell? ⟨cb, 8, none⟩ = some (.int .u64 (hw p)) ∧ w'.cell? ⟨cb, 9, none⟩ = some (.int .i64 (sz : Nat)) ∧ w'.cell? ⟨cb, 10, none⟩ = some (.int .u64 (r0 : Nat)) ∧ w'.cell? ⟨cb, 11, none⟩ = some (.int .u64 (r1 : Nat)) ∧ w'.cell? ⟨cb, 12, none⟩ = some (.int .i64 (x : Nat)) ∧ w'.cell? ⟨cb, 15, none⟩ = some (.int .i64 (out : Nat))) ∧ w'.cell? ⟨g, q * 2, none⟩ = some (.int .u64 (lw (xs.getD q 0))) ∧ w'.cell? ⟨g, q * 2 + 1, none⟩ = some (.int .u64 (hw (xs.getD q 0))) := by
          intro q hq w' hx
          have e := HXL.out
          refine ⟨HCF.out _ (Ext.transNew HE35.out hx (Nat.le_refl _)), hx.cell ((HG5.out _ (by rw [vecC_len128]; omega)).trans (vecC128_get0 _ _ (by omega))) hga, hx.cell ((HG5.out _ (by rw [vecC_len128]; omega)).trans (vecC128_get1 _ _ (by omega))) hga⟩
        have HS5 := Lib.hid hS5; clear hS5 hvs hxs
        go_wp2
        go_loopw [11] (fun i wr => ∃ q : Nat, q ≤ out ∧ i = .int .i64 q ∧ Hid (Ext w5 wr (fun t => t = w3.heap.size) ∧ wr.heap[w3.heap.size]? = some (.cells (putL (vecC enc128 vs).toArray 0 (vecC enc128 ((addN p vs xs).take q))) 53 (0, 0)))) (fun i _ => out - (intOf i).toNat)
        case atStart => exact ⟨0, by omega, rfl, h05⟩
        case round =>
          obtain ⟨q, hq, rfl, hQ⟩ := hrel
          have hla : (addN p vs xs).length = out := by rw [addN_len _ _ _ (by rw [HVL.out, HXL.out]), HVL.out]
          have HLA := Lib.hid hla; clear hla
          by_cases hqn : q = out
          · subst hqn
            go_wp2
            refine ⟨⟨j + 1, by omega, by go_num, Ext.transNew HE35.out hQ.out.1 (Nat.le_refl _), ?_, fun i hi => ?_⟩, by simp [intOf]; omega⟩
            · have hB := hQ.out.2
              rw [List.take_of_length_le (by rw [HLA.out]; omega), putL_all _ _ (by simp [vecC_len128, HLA.out, HVL.out])] at hB
              rw [HEND.out]
              exact hB
            · by_cases hij : i = j
              · subst hij; exact HGJ.out
              · exact HGD.out i (by omega)
          · have hlq : q < out := by omega
            have a0 : wr.cell? ⟨w3.heap.size, q * 2, none⟩ = some (.int .u64 (lw (vs.getD q 0))) := by
              rw [blk_cell hQ.out.2, putL_get_ge _ _ _ _ (by rw [vecC_len128, List.length_take]; omega), List.getElem?_toArray, vecC128_get0 _ _ (by rw [HVL.out]; exact hlq)]
            have a1 : wr.cell? ⟨w3.heap.size, q * 2 + 1, none⟩ = some (.int .u64 (hw (vs.getD q 0))) := by
              rw [blk_cell hQ.out.2, putL_get_ge _ _ _ _ (by rw [vecC_len128, List.length_take]; omega), List.getElem?_toArray, vecC128_get1 _ _ (by rw [HVL.out]; exact hlq)]
            have hxr := hQ.out.1
            have e1 : (0 : Int) ≤ (q : Int) := by omega
            have e2 : (q : Int) < (out : Int) := by omega
            have HSQ := Lib.hid (HS5.out q hlq)
            go_wp2_with fail
            obtain ⟨⟨f7, f8, f9, f10, f11, f12, f15⟩, x0, x1⟩ := HSQ.out _ hxr
            clear f15
            go_region_with (go_at_call 23; refine (specAdd' p _ (HVP.out q hlq) (HXP.out q hlq) hp).mono ?_; rintro e w6 ⟨rfl, hx6⟩; have hE6 := hxr.drew.transNo hx6; have hb6 := hx6.blkNo hQ.out.2; have s0 := hx6.cellNo a0; have s1 := hx6.cellNo a1; have t0 := blk_frz hb6 (q * 2); have t1 := blk_frz hb6 (q * 2 + 1); have HB6 := Lib.hid hb6; clear hb6 hx6)
            all_goals
              go_wp2
              have hB := blk_set (blk_set HB6.out (q * 2) (.int .u64 (lw ((vs.getD q 0 + xs.getD q 0) % p)))) (q * 2 + 1) (.int .u64 (hw ((vs.getD q 0 + xs.getD q 0) % p)))
              refine ⟨⟨q + 1, by omega, by go_num, (hE6.set (.inr rfl) _).set (.inr rfl) _, ?_⟩, by simp [intOf]; omega⟩
              rw [take_snocD _ _ (by rw [HLA.out]; exact hlq), vecC_snoc, putL_enc128, vecC_len128, List.length_take, HLA.out, Nat.min_eq_left (by omega), Nat.zero_add, Nat.mul_comm 2 q, addN_get _ _ _ _ (by rw [HVL.out, HXL.out]) (by rw [HVL.out]; exact hlq)]
              exact hB
      · have HGJ := Lib.hid hgj; clear hgj
        go_wp2_with fail
        go_region_held3 (fun w' => (w'.cell? ⟨cb, 7, none⟩ = some (.int .u64 (lw p)) ∧ w'.cell? ⟨cb, 8, none⟩ = some (.int .u64 (hw p)) ∧ w'.cell? ⟨cb, 9, none⟩ = some (.int .i64 (sz : Nat)) ∧ w'.cell? ⟨cb, 10, none⟩ = some (.int .u64 (r0 : Nat)) ∧ w'.cell? ⟨cb, 11, none⟩ = some (.int .u64 (r1 : Nat)) ∧ w'.cell? ⟨cb, 12, none⟩ = some (.int .i64 (x : Nat)) ∧ w'.cell? ⟨cb, 15, none⟩ = some (.int .i64 (out : Nat))) ∧ w'.cell? ⟨lb, lo + j, none⟩ = some u) (first | with_reducible exact HS4.out _ hE5 | with_reducible exact HS4.out _ (Ext.refl _ _).drew)
          (first | (go_at_call 22; refine (H22.out _ u _ (HBU.out.ext (Ext.refl w4 No).drew)).mono ?_; rintro e w5 ⟨hx5, -, hg5⟩; have hE5 := (Ext.refl w4 No).drew.transNo hx5; obtain rfl := hg5 HGJ.out; clear hg5 hx5))
        go_wp2
        go_ret2
        have e := HNE.out
        exact ⟨(HX3.out.transNo hx4).transNo hE5, fun h => absurd (h j (by omega)) HGJ.out, fun _ => rfl⟩
end Go.Proofs.YtlmmdldjfpdcfaaGreatDoor
