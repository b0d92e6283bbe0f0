/-
  impl.add: Count.
-/
import Derived.Test.YtlmmdldjfpdcfaaGreatDoorM28
import Derived.Test.YtlmmdldjfpdcfaaGreatDoorAggA
import Derived.Test.YtlmmdldjfpdcfaaGreatDoorTenA
namespace Go.Proofs.YtlmmdldjfpdcfaaGreatDoor
open Go.RowKit

/-- Where the sum stands behind j shares. -/
def AddCount (w : World) (ls : List (List Nat)) (out pb gb vb j : Nat) (wr : World) : Prop :=
  Ext w wr No ∧ wr.cell? ⟨pb, 2, none⟩ = some (.int .u64 (out : Nat)) ∧ wr.cell? ⟨gb, 0, none⟩ = some (.slice (some ⟨vb, 0, none⟩) out out) ∧
    wr.heap[vb]? = some (.cells (vecC enc64 (sumN P64 8 out tom64 (ls.take j))).toArray 44 (0, 0)) ∧ ∀ i, i < j → good 8 P64 out (ls.getD i [])

set_option maxHeartbeats 1000000 in
theorem addCount {kb out : Nat} {v : Value} {ls : List (List Nat)} {w : World} (hK : Kind 208 1 kb out w) (hD : Deb w) (h0 : 0 < out) (hn : out ≤ 1000) (hS : IsBs w v ls) (hN3 : ls.length ≤ 300) :
    Calls Tryz.prog 18 #[.iface 66 (.pointer (some ⟨kb, 0, none⟩)), v] w fun e w' => Ext w w' No ∧
      ((∀ i, i < ls.length → good 8 P64 out (ls.getD i [])) → ∃ g c, e = .returned (.tuple #[.slice (some ⟨g, 0, none⟩) (out * 8) c, .bool true]) ∧ w.heap.size ≤ g ∧
        ∀ i, i < out * 8 → w'.cell? ⟨g, i, none⟩ = some (.int .u8 ((flat out64 (sumN P64 8 out tom64 ls)).getD i 0 : Nat))) ∧
      ((¬ ∀ i, i < ls.length → good 8 P64 out (ls.getD i [])) → e = .returned (.tuple #[.slice none 0 0, .bool false])) := by
  obtain ⟨a, c, rfl, hls⟩ := hS
  obtain ⟨N, hN⟩ : ∃ N, N = ls.length := ⟨_, rfl⟩
  rw [← hN] at hls hN3 ⊢
  have K1 := prmCount hK hD
  have HK := Lib.hid hK; clear hK
  have HK1 := Lib.hid K1; clear K1 hD
  have HLS := Lib.hid hls; clear hls
  have HN := Lib.hid hN; clear hN
  go_enter Tryz.func18, Tryz.ntmps18
  go_wp2_with (first
    | (go_at_call 174; refine HK1.out.mono ?_; rintro e w1 ⟨⟨cs, rfl, hs, ha, h2⟩, hx1⟩; have hb1 : Big w1.heap.size 76 10 (w1.alloc (.cells #[.int .u64 0, .int .u64 0, .int .u64 0, .int .u64 0, .int .u64 0, .int .u64 0, .int .u64 0, .int .u64 0, .int .u64 0, .int .u8 0] 76)) := Big.new w1 _ rfl all10; have HB1 := Lib.hid hb1; clear hb1; have HX1 := Lib.hid hx1; clear hx1; have HS := Lib.hid hs; clear hs; have HA := Lib.hid ha; clear ha; have H2 := Lib.hid h2; clear h2)
    | ((with_reducible refine at_store 6 ?_); (with_reducible refine wpList_store_big _ rfl 76 (.tmp 6) (.tmp 14) rfl w1.heap.size 0 76 10 rfl cs rfl HB1.out (by rw [HS.out]; decide) (by rw [HS.out]; exact info76) HA.out ?_); intro w2 hx2 hB2 hk2 _; have h20 := (hk2 2 (by rw [HS.out]; decide)).trans H2.out; clear hk2 hB2; have l1 := HX1.out.size; have HX2 := Lib.hid ((HX1.out.alloc _).trans hx2 (fun i hi h => by omega)); clear hx2; have H20 := Lib.hid h20; clear h20)
    | (go_at_call 172; refine (initCount hn (HK.out.extNo HX2.out)).mono ?_; rintro e w3 ⟨vb, rfl, hx3, hv3, hle⟩; have HX3 := Lib.hid (HX2.out.transNo hx3); have H23 := Lib.hid (hx3.cellNo H20.out); clear hx3; have HV3 := Lib.hid hv3; clear hv3; have l2 := HX2.out.size; have l8 : vb < w3.heap.size := lt_of_blk HV3.out; have l9 : w1.heap.size < w2.heap.size := World.block_lt_of_cell? _ _ H20.out))
  go_loopw [19] (fun i wr => ∃ j : Nat, j ≤ N ∧ i = .int .i64 j ∧ Hid (AddCount w ls out w1.heap.size w3.heap.size vb j wr)) (fun i _ => N - (intOf i).toNat)
  case atStart =>
    refine ⟨0, by omega, rfl, HX3.out.alloc _, cell_alloc H23.out _, blk_cell (blk_new _ _) 0, ?_, fun i hi => by omega⟩
    have h := HV3.out
    rw [zeros64] at h
    exact blk_alloc h _
  case round =>
    obtain ⟨j, hj, rfl, hR⟩ := hrel
    obtain ⟨hx, hc2, hcg, hvb, hgood⟩ := hR.out
    by_cases hjn : j = N
    · subst hjn
      have hall : ∀ i, i < j → good 8 P64 out (ls.getD i []) := hgood
      have hfull : ls.take j = ls := List.take_of_length_le (by have := HN.out; omega)
      rw [hfull] at hvb
      have K8 := aggBin64 (vc := out) hcg (sumN_len P64 8 out tom64 ls) (fun i hi => sumN_lt P64 8 out tom64 (by decide) ls i hi) hvb hn
      have HK8 := Lib.hid K8; clear K8 hvb hcg hc2
      have HG := Lib.hid hall; clear hall hgood
      have HX := Lib.hid hx; clear hx
      obtain ⟨nb, hnb⟩ : ∃ nb, nb = out * 8 := ⟨_, rfl⟩
      rw [← hnb] at HK8
      have HL := Lib.hid (show (flat out64 (sumN P64 8 out tom64 ls)).length = nb by rw [flat_len _ 8 out64_len, sumN_len, hnb])
      have HNZ := Lib.hid (show 0 < nb by omega)
      have HNL := Lib.hid (show nb ≤ 100000 by omega)
      have HNB := Lib.hid hnb; clear hnb
      go_wp2_with (first
        | (go_at_call 31; refine HK8.out.mono ?_; rintro e w8 ⟨rfl, hx8, how8⟩; have HOW := Lib.hid how8; clear how8)
        | ((with_reducible refine at_dst 39 ?_); (refine wpList_append_empty _ rfl (.tmp 37) (.tmp 38) rfl ⟨w8.heap.size, 0, none⟩ rfl ⟨wr.heap.size, 0, none⟩ nb nb rfl (flat out64 (sumN P64 8 out tom64 ls)) HL.out HNZ.out HNL.out (row_bytes HOW.out HL.out _) ?_); intro cap w9 hx9 hc9; have HC9 := Lib.hid hc9; clear hc9))
      go_ret2
      refine ⟨(HX.out.transNo hx8).trans ((Ext.refl w8 No).alloc _) (fun _ _ f => f) |>.transNo hx9, fun _ => ⟨w8.heap.size + 1, cap, ?_, ?_, ?_⟩, fun h => (h HG.out).elim⟩
      · rw [← HNB.out]; simp
      · have h1 := HX.out.size; have h2 := hx8.size; omega
      · rw [← HNB.out]
        have h := HC9.out
        simpa using h
    · have hlj : j < N := by omega
      obtain ⟨b, o, rfl, hh⟩ := HLS.out.resolve_left (by omega)
      obtain ⟨u, hu, hB⟩ := hh j hlj
      have hu' := hx.cellNo hu
      have HB := Lib.hid (hB.ext hx); clear hB
      have HVB := Lib.hid hvb; clear hvb
      have HG := Lib.hid hgood; clear hgood
      have hc2' : ∀ o, (wr.alloc o).cell? ⟨w1.heap.size, 2, none⟩ = some (.int .u64 (out : Nat)) := fun o => cell_alloc hc2 o
      have HX := Lib.hid hx; clear hx
      have l3 := HX3.out.size
      have l4 : w3.heap.size < wr.heap.size := World.block_lt_of_cell? _ _ hcg
      have l5 := World.block_lt_of_cell? _ _ hu'
      have l6 := World.block_lt_of_cell? _ _ hu
      have l7 := lt_of_blk HVB.out
      have i1 : (0 : Int) ≤ (j : Int) := by omega
      have i2 : (j : Int) < (N : Int) := by omega
      have hdis : ∀ b' o' m' c', u = .slice (some ⟨b', o', none⟩) m' c' → m' ≠ 0 → b' ≠ wr.heap.size + 1 := by
        intro b' o' m' c' he hm'
        obtain ⟨-, a2, c2, he2, -, -, h4⟩ := HB.out
        rw [he] at he2
        simp only [Value.slice.injEq] at he2
        rcases h4 with h4 | ⟨b3, o3, ha3, h5⟩
        · omega
        · rw [ha3] at he2
          simp only [Option.some.injEq, Addr.mk.injEq] at he2
          have := World.block_lt_of_cell? _ _ (h5 0 (by omega))
          simp at this
          omega
      have HDIS := Lib.hid hdis; clear hdis
      by_cases hg : good 8 P64 out (ls.getD j [])
      · go_wp2_with (first
          | (go_at_call 29; refine (osNew64 hn (blk_new _ _) (hc2' _)).mono ?_; rintro e w5 ⟨rfl, hw5⟩; obtain ⟨q1, q2, q3⟩ := mkNew64 hw5; have K5 := (osUnmBin64 (vc := out) (ls.getD j []) q1 q2 (by simp [size_madeCells]) h0 hn (HB.out.ext q3) HDIS.out).mono (fun e w' h => h.1 hg); have HK5 := Lib.hid K5; have HQ1 := Lib.hid q1; have HQ3 := Lib.hid q3; clear K5 q1 q2 q3 hw5)
          | (go_at_call 30; refine HK5.out.mono ?_; rintro e w6 ⟨rfl, hx6, hb6⟩; have hg6 := hx6.cell (HQ3.out.cellNo hcg) (show ¬ w3.heap.size = wr.heap.size + 1 by omega); have ho6 := hx6.cell HQ1.out (by simp); have hv6 := hx6.blk (HQ3.out.blkNo HVB.out) (show ¬ vb = wr.heap.size + 1 by omega); have K6 := updCount (kb := kb) (xc := out) hg6 ho6 (sumN_len P64 8 out tom64 (ls.take j)) (by rw [List.length_map, chunks_len]) (fun i hi => sumN_lt P64 8 out tom64 (by decide) (ls.take j) i hi) (mapLt64 8 out (ls.getD j [])) hv6 hb6 (by omega) hn; have HK6 := Lib.hid K6; have hx6' : Ext wr w6 No := HQ3.out.trans hx6 (fun i hi h => by omega); have HX6 := Lib.hid hx6'; clear K6 hg6 ho6 hv6 hb6 hx6 hx6')
          | (go_at_call 173; refine HK6.out.mono ?_; rintro e w7 ⟨rfl, hx7, hb7⟩))
        refine ⟨⟨j + 1, by omega, by go_num, (HX.out.transNo HX6.out).trans hx7 (fun i hi h => by omega), hx7.cell (HX6.out.cellNo hc2) (show ¬ w1.heap.size = vb by omega), hx7.cell (HX6.out.cellNo hcg) (show ¬ w3.heap.size = vb by omega), ?_, ?_⟩, by simp [intOf]; omega⟩
        · rw [take_snocL ls j (by have := HN.out; omega), sumN_snoc]
          exact hb7
        · intro i hi
          by_cases h : i = j
          · subst h; exact hg
          · exact HG.out i (by omega)
      · go_wp2_with (first
          | (go_at_call 29; refine (osNew64 hn (blk_new _ _) (hc2' _)).mono ?_; rintro e w5 ⟨rfl, hw5⟩; obtain ⟨q1, q2, q3⟩ := mkNew64 hw5; have K5 := (osUnmBin64 (vc := out) (ls.getD j []) q1 q2 (by simp [size_madeCells]) h0 hn (HB.out.ext q3) HDIS.out).mono (fun e w' h => h.2 hg); have HK5 := Lib.hid K5; have HQ1 := Lib.hid q1; have HQ3 := Lib.hid q3; clear K5 q1 q2 q3 hw5)
          | (go_at_call 30; refine HK5.out.mono ?_; rintro e w6 ⟨⟨t, p, rfl⟩, hx6⟩))
        go_ret2
        exact ⟨HX.out.transNo (HQ3.out.trans hx6 (fun i hi h => by omega)), fun h => absurd (h j hlj) hg, fun _ => rfl⟩
end Go.Proofs.YtlmmdldjfpdcfaaGreatDoor

/-
  impl.add: Sum.
-/
namespace Go.Proofs.YtlmmdldjfpdcfaaGreatDoor
open Go.RowKit

/-- Where the sum stands behind j shares. -/
def AddSum (w : World) (ls : List (List Nat)) (out pb gb vb j : Nat) (wr : World) : Prop :=
  Ext w wr No ∧ wr.cell? ⟨pb, 2, none⟩ = some (.int .u64 (out : Nat)) ∧ wr.cell? ⟨gb, 0, none⟩ = some (.slice (some ⟨vb, 0, none⟩) out out) ∧
    wr.heap[vb]? = some (.cells (vecC enc64 (sumN P64 8 out tom64 (ls.take j))).toArray 44 (0, 0)) ∧ ∀ i, i < j → good 8 P64 out (ls.getD i [])

set_option maxHeartbeats 1000000 in
theorem addSum {kb out : Nat} {v : Value} {ls : List (List Nat)} {w : World} (hK : Kind 215 1 kb out w) (hD : Deb w) (h0 : 0 < out) (hn : out ≤ 1000) (hS : IsBs w v ls) (hN3 : ls.length ≤ 300) :
    Calls Tryz.prog 18 #[.iface 71 (.pointer (some ⟨kb, 0, none⟩)), v] w fun e w' => Ext w w' No ∧
      ((∀ i, i < ls.length → good 8 P64 out (ls.getD i [])) → ∃ g c, e = .returned (.tuple #[.slice (some ⟨g, 0, none⟩) (out * 8) c, .bool true]) ∧ w.heap.size ≤ g ∧
        ∀ i, i < out * 8 → w'.cell? ⟨g, i, none⟩ = some (.int .u8 ((flat out64 (sumN P64 8 out tom64 ls)).getD i 0 : Nat))) ∧
      ((¬ ∀ i, i < ls.length → good 8 P64 out (ls.getD i [])) → e = .returned (.tuple #[.slice none 0 0, .bool false])) := by
  obtain ⟨a, c, rfl, hls⟩ := hS
  obtain ⟨N, hN⟩ : ∃ N, N = ls.length := ⟨_, rfl⟩
  rw [← hN] at hls hN3 ⊢
  have K1 := prmSum hK hD
  have HK := Lib.hid hK; clear hK
  have HK1 := Lib.hid K1; clear K1 hD
  have HLS := Lib.hid hls; clear hls
  have HN := Lib.hid hN; clear hN
  go_enter Tryz.func18, Tryz.ntmps18
  go_wp2_with (first
    | (go_at_call 185; refine HK1.out.mono ?_; rintro e w1 ⟨⟨cs, rfl, hs, ha, h2⟩, hx1⟩; have hb1 : Big w1.heap.size 76 10 (w1.alloc (.cells #[.int .u64 0, .int .u64 0, .int .u64 0, .int .u64 0, .int .u64 0, .int .u64 0, .int .u64 0, .int .u64 0, .int .u64 0, .int .u8 0] 76)) := Big.new w1 _ rfl all10; have HB1 := Lib.hid hb1; clear hb1; have HX1 := Lib.hid hx1; clear hx1; have HS := Lib.hid hs; clear hs; have HA := Lib.hid ha; clear ha; have H2 := Lib.hid h2; clear h2)
    | ((with_reducible refine at_store 6 ?_); (with_reducible refine wpList_store_big _ rfl 76 (.tmp 6) (.tmp 14) rfl w1.heap.size 0 76 10 rfl cs rfl HB1.out (by rw [HS.out]; decide) (by rw [HS.out]; exact info76) HA.out ?_); intro w2 hx2 hB2 hk2 _; have h20 := (hk2 2 (by rw [HS.out]; decide)).trans H2.out; clear hk2 hB2; have l1 := HX1.out.size; have HX2 := Lib.hid ((HX1.out.alloc _).trans hx2 (fun i hi h => by omega)); clear hx2; have H20 := Lib.hid h20; clear h20)
    | (go_at_call 183; refine (initSum hn (HK.out.extNo HX2.out)).mono ?_; rintro e w3 ⟨vb, rfl, hx3, hv3, hle⟩; have HX3 := Lib.hid (HX2.out.transNo hx3); have H23 := Lib.hid (hx3.cellNo H20.out); clear hx3; have HV3 := Lib.hid hv3; clear hv3; have l2 := HX2.out.size; have l8 : vb < w3.heap.size := lt_of_blk HV3.out; have l9 : w1.heap.size < w2.heap.size := World.block_lt_of_cell? _ _ H20.out))
  go_loopw [19] (fun i wr => ∃ j : Nat, j ≤ N ∧ i = .int .i64 j ∧ Hid (AddSum w ls out w1.heap.size w3.heap.size vb j wr)) (fun i _ => N - (intOf i).toNat)
  case atStart =>
    refine ⟨0, by omega, rfl, HX3.out.alloc _, cell_alloc H23.out _, blk_cell (blk_new _ _) 0, ?_, fun i hi => by omega⟩
    have h := HV3.out
    rw [zeros64] at h
    exact blk_alloc h _
  case round =>
    obtain ⟨j, hj, rfl, hR⟩ := hrel
    obtain ⟨hx, hc2, hcg, hvb, hgood⟩ := hR.out
    by_cases hjn : j = N
    · subst hjn
      have hall : ∀ i, i < j → good 8 P64 out (ls.getD i []) := hgood
      have hfull : ls.take j = ls := List.take_of_length_le (by have := HN.out; omega)
      rw [hfull] at hvb
      have K8 := aggBin64 (vc := out) hcg (sumN_len P64 8 out tom64 ls) (fun i hi => sumN_lt P64 8 out tom64 (by decide) ls i hi) hvb hn
      have HK8 := Lib.hid K8; clear K8 hvb hcg hc2
      have HG := Lib.hid hall; clear hall hgood
      have HX := Lib.hid hx; clear hx
      obtain ⟨nb, hnb⟩ : ∃ nb, nb = out * 8 := ⟨_, rfl⟩
      rw [← hnb] at HK8
      have HL := Lib.hid (show (flat out64 (sumN P64 8 out tom64 ls)).length = nb by rw [flat_len _ 8 out64_len, sumN_len, hnb])
      have HNZ := Lib.hid (show 0 < nb by omega)
      have HNL := Lib.hid (show nb ≤ 100000 by omega)
      have HNB := Lib.hid hnb; clear hnb
      go_wp2_with (first
        | (go_at_call 31; refine HK8.out.mono ?_; rintro e w8 ⟨rfl, hx8, how8⟩; have HOW := Lib.hid how8; clear how8)
        | ((with_reducible refine at_dst 39 ?_); (refine wpList_append_empty _ rfl (.tmp 37) (.tmp 38) rfl ⟨w8.heap.size, 0, none⟩ rfl ⟨wr.heap.size, 0, none⟩ nb nb rfl (flat out64 (sumN P64 8 out tom64 ls)) HL.out HNZ.out HNL.out (row_bytes HOW.out HL.out _) ?_); intro cap w9 hx9 hc9; have HC9 := Lib.hid hc9; clear hc9))
      go_ret2
      refine ⟨(HX.out.transNo hx8).trans ((Ext.refl w8 No).alloc _) (fun _ _ f => f) |>.transNo hx9, fun _ => ⟨w8.heap.size + 1, cap, ?_, ?_, ?_⟩, fun h => (h HG.out).elim⟩
      · rw [← HNB.out]; simp
      · have h1 := HX.out.size; have h2 := hx8.size; omega
      · rw [← HNB.out]
        have h := HC9.out
        simpa using h
    · have hlj : j < N := by omega
      obtain ⟨b, o, rfl, hh⟩ := HLS.out.resolve_left (by omega)
      obtain ⟨u, hu, hB⟩ := hh j hlj
      have hu' := hx.cellNo hu
      have HB := Lib.hid (hB.ext hx); clear hB
      have HVB := Lib.hid hvb; clear hvb
      have HG := Lib.hid hgood; clear hgood
      have hc2' : ∀ o, (wr.alloc o).cell? ⟨w1.heap.size, 2, none⟩ = some (.int .u64 (out : Nat)) := fun o => cell_alloc hc2 o
      have HX := Lib.hid hx; clear hx
      have l3 := HX3.out.size
      have l4 : w3.heap.size < wr.heap.size := World.block_lt_of_cell? _ _ hcg
      have l5 := World.block_lt_of_cell? _ _ hu'
      have l6 := World.block_lt_of_cell? _ _ hu
      have l7 := lt_of_blk HVB.out
      have i1 : (0 : Int) ≤ (j : Int) := by omega
      have i2 : (j : Int) < (N : Int) := by omega
      have hdis : ∀ b' o' m' c', u = .slice (some ⟨b', o', none⟩) m' c' → m' ≠ 0 → b' ≠ wr.heap.size + 1 := by
        intro b' o' m' c' he hm'
        obtain ⟨-, a2, c2, he2, -, -, h4⟩ := HB.out
        rw [he] at he2
        simp only [Value.slice.injEq] at he2
        rcases h4 with h4 | ⟨b3, o3, ha3, h5⟩
        · omega
        · rw [ha3] at he2
          simp only [Option.some.injEq, Addr.mk.injEq] at he2
          have := World.block_lt_of_cell? _ _ (h5 0 (by omega))
          simp at this
          omega
      have HDIS := Lib.hid hdis; clear hdis
      by_cases hg : good 8 P64 out (ls.getD j [])
      · go_wp2_with (first
          | (go_at_call 29; refine (osNew64 hn (blk_new _ _) (hc2' _)).mono ?_; rintro e w5 ⟨rfl, hw5⟩; obtain ⟨q1, q2, q3⟩ := mkNew64 hw5; have K5 := (osUnmBin64 (vc := out) (ls.getD j []) q1 q2 (by simp [size_madeCells]) h0 hn (HB.out.ext q3) HDIS.out).mono (fun e w' h => h.1 hg); have HK5 := Lib.hid K5; have HQ1 := Lib.hid q1; have HQ3 := Lib.hid q3; clear K5 q1 q2 q3 hw5)
          | (go_at_call 30; refine HK5.out.mono ?_; rintro e w6 ⟨rfl, hx6, hb6⟩; have hg6 := hx6.cell (HQ3.out.cellNo hcg) (show ¬ w3.heap.size = wr.heap.size + 1 by omega); have ho6 := hx6.cell HQ1.out (by simp); have hv6 := hx6.blk (HQ3.out.blkNo HVB.out) (show ¬ vb = wr.heap.size + 1 by omega); have K6 := updSum (kb := kb) (xc := out) hg6 ho6 (sumN_len P64 8 out tom64 (ls.take j)) (by rw [List.length_map, chunks_len]) (fun i hi => sumN_lt P64 8 out tom64 (by decide) (ls.take j) i hi) (mapLt64 8 out (ls.getD j [])) hv6 hb6 (by omega) hn; have HK6 := Lib.hid K6; have hx6' : Ext wr w6 No := HQ3.out.trans hx6 (fun i hi h => by omega); have HX6 := Lib.hid hx6'; clear K6 hg6 ho6 hv6 hb6 hx6 hx6')
          | (go_at_call 184; refine HK6.out.mono ?_; rintro e w7 ⟨rfl, hx7, hb7⟩))
        refine ⟨⟨j + 1, by omega, by go_num, (HX.out.transNo HX6.out).trans hx7 (fun i hi h => by omega), hx7.cell (HX6.out.cellNo hc2) (show ¬ w1.heap.size = vb by omega), hx7.cell (HX6.out.cellNo hcg) (show ¬ w3.heap.size = vb by omega), ?_, ?_⟩, by simp [intOf]; omega⟩
        · rw [take_snocL ls j (by have := HN.out; omega), sumN_snoc]
          exact hb7
        · intro i hi
          by_cases h : i = j
          · subst h; exact hg
          · exact HG.out i (by omega)
      · go_wp2_with (first
          | (go_at_call 29; refine (osNew64 hn (blk_new _ _) (hc2' _)).mono ?_; rintro e w5 ⟨rfl, hw5⟩; obtain ⟨q1, q2, q3⟩ := mkNew64 hw5; have K5 := (osUnmBin64 (vc := out) (ls.getD j []) q1 q2 (by simp [size_madeCells]) h0 hn (HB.out.ext q3) HDIS.out).mono (fun e w' h => h.2 hg); have HK5 := Lib.hid K5; have HQ1 := Lib.hid q1; have HQ3 := Lib.hid q3; clear K5 q1 q2 q3 hw5)
          | (go_at_call 30; refine HK5.out.mono ?_; rintro e w6 ⟨⟨t, p, rfl⟩, hx6⟩))
        go_ret2
        exact ⟨HX.out.transNo (HQ3.out.trans hx6 (fun i hi h => by omega)), fun h => absurd (h j hlj) hg, fun _ => rfl⟩
end Go.Proofs.YtlmmdldjfpdcfaaGreatDoor

/-
  impl.add: Sv.
-/
namespace Go.Proofs.YtlmmdldjfpdcfaaGreatDoor
open Go.RowKit

/-- Where the sum stands behind j shares. -/
def AddSv (w : World) (ls : List (List Nat)) (out pb gb vb j : Nat) (wr : World) : Prop :=
  Ext w wr No ∧ wr.cell? ⟨pb, 2, none⟩ = some (.int .u64 (out : Nat)) ∧ wr.cell? ⟨gb, 0, none⟩ = some (.slice (some ⟨vb, 0, none⟩) out out) ∧
    wr.heap[vb]? = some (.cells (vecC enc128 (sumN P128 16 out tom128 (ls.take j))).toArray 52 (0, 0)) ∧ ∀ i, i < j → good 16 P128 out (ls.getD i [])

set_option maxHeartbeats 1000000 in
theorem addSv {kb out : Nat} {v : Value} {ls : List (List Nat)} {w : World} (hK : Kind 238 2 kb out w) (hD : Deb w) (h0 : 0 < out) (hn : out ≤ 1000) (hS : IsBs w v ls) (hN3 : ls.length ≤ 300) :
    Calls Tryz.prog 20 #[.iface 90 (.pointer (some ⟨kb, 0, none⟩)), v] w fun e w' => Ext w w' No ∧
      ((∀ i, i < ls.length → good 16 P128 out (ls.getD i [])) → ∃ g c, e = .returned (.tuple #[.slice (some ⟨g, 0, none⟩) (out * 16) c, .bool true]) ∧ w.heap.size ≤ g ∧
        ∀ i, i < out * 16 → w'.cell? ⟨g, i, none⟩ = some (.int .u8 ((flat out128 (sumN P128 16 out tom128 ls)).getD i 0 : Nat))) ∧
      ((¬ ∀ i, i < ls.length → good 16 P128 out (ls.getD i [])) → e = .returned (.tuple #[.slice none 0 0, .bool false])) := by
  obtain ⟨a, c, rfl, hls⟩ := hS
  obtain ⟨N, hN⟩ : ∃ N, N = ls.length := ⟨_, rfl⟩
  rw [← hN] at hls hN3 ⊢
  have K1 := prmSv hK hD
  have HK := Lib.hid hK; clear hK
  have HK1 := Lib.hid K1; clear K1 hD
  have HLS := Lib.hid hls; clear hls
  have HN := Lib.hid hN; clear hN
  go_enter Tryz.func20, Tryz.ntmps20
  go_wp2_with (first
    | (go_at_call 205; refine HK1.out.mono ?_; rintro e w1 ⟨⟨cs, rfl, hs, ha, h2⟩, hx1⟩; have hb1 : Big w1.heap.size 76 10 (w1.alloc (.cells #[.int .u64 0, .int .u64 0, .int .u64 0, .int .u64 0, .int .u64 0, .int .u64 0, .int .u64 0, .int .u64 0, .int .u64 0, .int .u8 0] 76)) := Big.new w1 _ rfl all10; have HB1 := Lib.hid hb1; clear hb1; have HX1 := Lib.hid hx1; clear hx1; have HS := Lib.hid hs; clear hs; have HA := Lib.hid ha; clear ha; have H2 := Lib.hid h2; clear h2)
    | ((with_reducible refine at_store 6 ?_); (with_reducible refine wpList_store_big _ rfl 76 (.tmp 6) (.tmp 14) rfl w1.heap.size 0 76 10 rfl cs rfl HB1.out (by rw [HS.out]; decide) (by rw [HS.out]; exact info76) HA.out ?_); intro w2 hx2 hB2 hk2 _; have h20 := (hk2 2 (by rw [HS.out]; decide)).trans H2.out; clear hk2 hB2; have l1 := HX1.out.size; have HX2 := Lib.hid ((HX1.out.alloc _).trans hx2 (fun i hi h => by omega)); clear hx2; have H20 := Lib.hid h20; clear h20)
    | (go_at_call 203; refine (initSv hn (HK.out.extNo HX2.out)).mono ?_; rintro e w3 ⟨vb, rfl, hx3, hv3, hle⟩; have HX3 := Lib.hid (HX2.out.transNo hx3); have H23 := Lib.hid (hx3.cellNo H20.out); clear hx3; have HV3 := Lib.hid hv3; clear hv3; have l2 := HX2.out.size; have l8 : vb < w3.heap.size := lt_of_blk HV3.out; have l9 : w1.heap.size < w2.heap.size := World.block_lt_of_cell? _ _ H20.out))
  go_loopw [19] (fun i wr => ∃ j : Nat, j ≤ N ∧ i = .int .i64 j ∧ Hid (AddSv w ls out w1.heap.size w3.heap.size vb j wr)) (fun i _ => N - (intOf i).toNat)
  case atStart =>
    refine ⟨0, by omega, rfl, HX3.out.alloc _, cell_alloc H23.out _, blk_cell (blk_new _ _) 0, ?_, fun i hi => by omega⟩
    have h := HV3.out
    rw [zeros128] at h
    exact blk_alloc h _
  case round =>
    obtain ⟨j, hj, rfl, hR⟩ := hrel
    obtain ⟨hx, hc2, hcg, hvb, hgood⟩ := hR.out
    by_cases hjn : j = N
    · subst hjn
      have hall : ∀ i, i < j → good 16 P128 out (ls.getD i []) := hgood
      have hfull : ls.take j = ls := List.take_of_length_le (by have := HN.out; omega)
      rw [hfull] at hvb
      have K8 := aggBin128 (vc := out) hcg (sumN_len P128 16 out tom128 ls) (fun i hi => sumN_lt P128 16 out tom128 (by decide) ls i hi) hvb hn
      have HK8 := Lib.hid K8; clear K8 hvb hcg hc2
      have HG := Lib.hid hall; clear hall hgood
      have HX := Lib.hid hx; clear hx
      obtain ⟨nb, hnb⟩ : ∃ nb, nb = out * 16 := ⟨_, rfl⟩
      rw [← hnb] at HK8
      have HL := Lib.hid (show (flat out128 (sumN P128 16 out tom128 ls)).length = nb by rw [flat_len _ 16 out128_len, sumN_len, hnb])
      have HNZ := Lib.hid (show 0 < nb by omega)
      have HNL := Lib.hid (show nb ≤ 100000 by omega)
      have HNB := Lib.hid hnb; clear hnb
      go_wp2_with (first
        | (go_at_call 37; refine HK8.out.mono ?_; rintro e w8 ⟨rfl, hx8, how8⟩; have HOW := Lib.hid how8; clear how8)
        | ((with_reducible refine at_dst 39 ?_); (refine wpList_append_empty _ rfl (.tmp 37) (.tmp 38) rfl ⟨w8.heap.size, 0, none⟩ rfl ⟨wr.heap.size, 0, none⟩ nb nb rfl (flat out128 (sumN P128 16 out tom128 ls)) HL.out HNZ.out HNL.out (row_bytes HOW.out HL.out _) ?_); intro cap w9 hx9 hc9; have HC9 := Lib.hid hc9; clear hc9))
      go_ret2
      refine ⟨(HX.out.transNo hx8).trans ((Ext.refl w8 No).alloc _) (fun _ _ f => f) |>.transNo hx9, fun _ => ⟨w8.heap.size + 1, cap, ?_, ?_, ?_⟩, fun h => (h HG.out).elim⟩
      · rw [← HNB.out]; simp
      · have h1 := HX.out.size; have h2 := hx8.size; omega
      · rw [← HNB.out]
        have h := HC9.out
        simpa using h
    · have hlj : j < N := by omega
      obtain ⟨b, o, rfl, hh⟩ := HLS.out.resolve_left (by omega)
      obtain ⟨u, hu, hB⟩ := hh j hlj
      have hu' := hx.cellNo hu
      have HB := Lib.hid (hB.ext hx); clear hB
      have HVB := Lib.hid hvb; clear hvb
      have HG := Lib.hid hgood; clear hgood
      have hc2' : ∀ o, (wr.alloc o).cell? ⟨w1.heap.size, 2, none⟩ = some (.int .u64 (out : Nat)) := fun o => cell_alloc hc2 o
      have HX := Lib.hid hx; clear hx
      have l3 := HX3.out.size
      have l4 : w3.heap.size < wr.heap.size := World.block_lt_of_cell? _ _ hcg
      have l5 := World.block_lt_of_cell? _ _ hu'
      have l6 := World.block_lt_of_cell? _ _ hu
      have l7 := lt_of_blk HVB.out
      have i1 : (0 : Int) ≤ (j : Int) := by omega
      have i2 : (j : Int) < (N : Int) := by omega
      have hdis : ∀ b' o' m' c', u = .slice (some ⟨b', o', none⟩) m' c' → m' ≠ 0 → b' ≠ wr.heap.size + 1 := by
        intro b' o' m' c' he hm'
        obtain ⟨-, a2, c2, he2, -, -, h4⟩ := HB.out
        rw [he] at he2
        simp only [Value.slice.injEq] at he2
        rcases h4 with h4 | ⟨b3, o3, ha3, h5⟩
        · omega
        · rw [ha3] at he2
          simp only [Option.some.injEq, Addr.mk.injEq] at he2
          have := World.block_lt_of_cell? _ _ (h5 0 (by omega))
          simp at this
          omega
      have HDIS := Lib.hid hdis; clear hdis
      by_cases hg : good 16 P128 out (ls.getD j [])
      · go_wp2_with (first
          | (go_at_call 35; refine (osNew128 hn (blk_new _ _) (hc2' _)).mono ?_; rintro e w5 ⟨rfl, hw5⟩; obtain ⟨q1, q2, q3⟩ := mkNew128 hw5; have K5 := (osUnmBin128 (vc := out) (ls.getD j []) q1 q2 (by simp [size_madeCells]; omega) h0 hn (HB.out.ext q3) HDIS.out).mono (fun e w' h => h.1 hg); have HK5 := Lib.hid K5; have HQ1 := Lib.hid q1; have HQ3 := Lib.hid q3; clear K5 q1 q2 q3 hw5)
          | (go_at_call 36; refine HK5.out.mono ?_; rintro e w6 ⟨rfl, hx6, hb6⟩; have hg6 := hx6.cell (HQ3.out.cellNo hcg) (show ¬ w3.heap.size = wr.heap.size + 1 by omega); have ho6 := hx6.cell HQ1.out (by simp); have hv6 := hx6.blk (HQ3.out.blkNo HVB.out) (show ¬ vb = wr.heap.size + 1 by omega); have K6 := updSv (kb := kb) (xc := out) hg6 ho6 (sumN_len P128 16 out tom128 (ls.take j)) (by rw [List.length_map, chunks_len]) (fun i hi => sumN_lt P128 16 out tom128 (by decide) (ls.take j) i hi) (mapLt128 16 out (ls.getD j [])) hv6 hb6 (by omega) hn; have HK6 := Lib.hid K6; have hx6' : Ext wr w6 No := HQ3.out.trans hx6 (fun i hi h => by omega); have HX6 := Lib.hid hx6'; clear K6 hg6 ho6 hv6 hb6 hx6 hx6')
          | (go_at_call 204; refine HK6.out.mono ?_; rintro e w7 ⟨rfl, hx7, hb7⟩))
        refine ⟨⟨j + 1, by omega, by go_num, (HX.out.transNo HX6.out).trans hx7 (fun i hi h => by omega), hx7.cell (HX6.out.cellNo hc2) (show ¬ w1.heap.size = vb by omega), hx7.cell (HX6.out.cellNo hcg) (show ¬ w3.heap.size = vb by omega), ?_, ?_⟩, by simp [intOf]; omega⟩
        · rw [take_snocL ls j (by have := HN.out; omega), sumN_snoc]
          exact hb7
        · intro i hi
          by_cases h : i = j
          · subst h; exact hg
          · exact HG.out i (by omega)
      · go_wp2_with (first
          | (go_at_call 35; refine (osNew128 hn (blk_new _ _) (hc2' _)).mono ?_; rintro e w5 ⟨rfl, hw5⟩; obtain ⟨q1, q2, q3⟩ := mkNew128 hw5; have K5 := (osUnmBin128 (vc := out) (ls.getD j []) q1 q2 (by simp [size_madeCells]; omega) h0 hn (HB.out.ext q3) HDIS.out).mono (fun e w' h => h.2 hg); have HK5 := Lib.hid K5; have HQ1 := Lib.hid q1; have HQ3 := Lib.hid q3; clear K5 q1 q2 q3 hw5)
          | (go_at_call 36; refine HK5.out.mono ?_; rintro e w6 ⟨⟨t, p, rfl⟩, hx6⟩))
        go_ret2
        exact ⟨HX.out.transNo (HQ3.out.trans hx6 (fun i hi h => by omega)), fun h => absurd (h j hlj) hg, fun _ => rfl⟩
end Go.Proofs.YtlmmdldjfpdcfaaGreatDoor

/-
  impl.add: Hist.
-/
namespace Go.Proofs.YtlmmdldjfpdcfaaGreatDoor
open Go.RowKit

/-- Where the sum stands behind j shares. -/
def AddHist (w : World) (ls : List (List Nat)) (out pb gb vb j : Nat) (wr : World) : Prop :=
  Ext w wr No ∧ wr.cell? ⟨pb, 2, none⟩ = some (.int .u64 (out : Nat)) ∧ wr.cell? ⟨gb, 0, none⟩ = some (.slice (some ⟨vb, 0, none⟩) out out) ∧
    wr.heap[vb]? = some (.cells (vecC enc128 (sumN P128 16 out tom128 (ls.take j))).toArray 52 (0, 0)) ∧ ∀ i, i < j → good 16 P128 out (ls.getD i [])

set_option maxHeartbeats 1000000 in
theorem addHist {kb out : Nat} {v : Value} {ls : List (List Nat)} {w : World} (hK : Kind 242 2 kb out w) (hD : Deb w) (h0 : 0 < out) (hn : out ≤ 1000) (hS : IsBs w v ls) (hN3 : ls.length ≤ 300) :
    Calls Tryz.prog 20 #[.iface 93 (.pointer (some ⟨kb, 0, none⟩)), v] w fun e w' => Ext w w' No ∧
      ((∀ i, i < ls.length → good 16 P128 out (ls.getD i [])) → ∃ g c, e = .returned (.tuple #[.slice (some ⟨g, 0, none⟩) (out * 16) c, .bool true]) ∧ w.heap.size ≤ g ∧
        ∀ i, i < out * 16 → w'.cell? ⟨g, i, none⟩ = some (.int .u8 ((flat out128 (sumN P128 16 out tom128 ls)).getD i 0 : Nat))) ∧
      ((¬ ∀ i, i < ls.length → good 16 P128 out (ls.getD i [])) → e = .returned (.tuple #[.slice none 0 0, .bool false])) := by
  obtain ⟨a, c, rfl, hls⟩ := hS
  obtain ⟨N, hN⟩ : ∃ N, N = ls.length := ⟨_, rfl⟩
  rw [← hN] at hls hN3 ⊢
  have K1 := prmHist hK hD
  have HK := Lib.hid hK; clear hK
  have HK1 := Lib.hid K1; clear K1 hD
  have HLS := Lib.hid hls; clear hls
  have HN := Lib.hid hN; clear hN
  go_enter Tryz.func20, Tryz.ntmps20
  go_wp2_with (first
    | (go_at_call 215; refine HK1.out.mono ?_; rintro e w1 ⟨⟨cs, rfl, hs, ha, h2⟩, hx1⟩; have hb1 : Big w1.heap.size 76 10 (w1.alloc (.cells #[.int .u64 0, .int .u64 0, .int .u64 0, .int .u64 0, .int .u64 0, .int .u64 0, .int .u64 0, .int .u64 0, .int .u64 0, .int .u8 0] 76)) := Big.new w1 _ rfl all10; have HB1 := Lib.hid hb1; clear hb1; have HX1 := Lib.hid hx1; clear hx1; have HS := Lib.hid hs; clear hs; have HA := Lib.hid ha; clear ha; have H2 := Lib.hid h2; clear h2)
    | ((with_reducible refine at_store 6 ?_); (with_reducible refine wpList_store_big _ rfl 76 (.tmp 6) (.tmp 14) rfl w1.heap.size 0 76 10 rfl cs rfl HB1.out (by rw [HS.out]; decide) (by rw [HS.out]; exact info76) HA.out ?_); intro w2 hx2 hB2 hk2 _; have h20 := (hk2 2 (by rw [HS.out]; decide)).trans H2.out; clear hk2 hB2; have l1 := HX1.out.size; have HX2 := Lib.hid ((HX1.out.alloc _).trans hx2 (fun i hi h => by omega)); clear hx2; have H20 := Lib.hid h20; clear h20)
    | (go_at_call 213; refine (initHist hn (HK.out.extNo HX2.out)).mono ?_; rintro e w3 ⟨vb, rfl, hx3, hv3, hle⟩; have HX3 := Lib.hid (HX2.out.transNo hx3); have H23 := Lib.hid (hx3.cellNo H20.out); clear hx3; have HV3 := Lib.hid hv3; clear hv3; have l2 := HX2.out.size; have l8 : vb < w3.heap.size := lt_of_blk HV3.out; have l9 : w1.heap.size < w2.heap.size := World.block_lt_of_cell? _ _ H20.out))
  go_loopw [19] (fun i wr => ∃ j : Nat, j ≤ N ∧ i = .int .i64 j ∧ Hid (AddHist w ls out w1.heap.size w3.heap.size vb j wr)) (fun i _ => N - (intOf i).toNat)
  case atStart =>
    refine ⟨0, by omega, rfl, HX3.out.alloc _, cell_alloc H23.out _, blk_cell (blk_new _ _) 0, ?_, fun i hi => by omega⟩
    have h := HV3.out
    rw [zeros128] at h
    exact blk_alloc h _
  case round =>
    obtain ⟨j, hj, rfl, hR⟩ := hrel
    obtain ⟨hx, hc2, hcg, hvb, hgood⟩ := hR.out
    by_cases hjn : j = N
    · subst hjn
      have hall : ∀ i, i < j → good 16 P128 out (ls.getD i []) := hgood
      have hfull : ls.take j = ls := List.take_of_length_le (by have := HN.out; omega)
      rw [hfull] at hvb
      have K8 := aggBin128 (vc := out) hcg (sumN_len P128 16 out tom128 ls) (fun i hi => sumN_lt P128 16 out tom128 (by decide) ls i hi) hvb hn
      have HK8 := Lib.hid K8; clear K8 hvb hcg hc2
      have HG := Lib.hid hall; clear hall hgood
      have HX := Lib.hid hx; clear hx
      obtain ⟨nb, hnb⟩ : ∃ nb, nb = out * 16 := ⟨_, rfl⟩
      rw [← hnb] at HK8
      have HL := Lib.hid (show (flat out128 (sumN P128 16 out tom128 ls)).length = nb by rw [flat_len _ 16 out128_len, sumN_len, hnb])
      have HNZ := Lib.hid (show 0 < nb by omega)
      have HNL := Lib.hid (show nb ≤ 100000 by omega)
      have HNB := Lib.hid hnb; clear hnb
      go_wp2_with (first
        | (go_at_call 37; refine HK8.out.mono ?_; rintro e w8 ⟨rfl, hx8, how8⟩; have HOW := Lib.hid how8; clear how8)
        | ((with_reducible refine at_dst 39 ?_); (refine wpList_append_empty _ rfl (.tmp 37) (.tmp 38) rfl ⟨w8.heap.size, 0, none⟩ rfl ⟨wr.heap.size, 0, none⟩ nb nb rfl (flat out128 (sumN P128 16 out tom128 ls)) HL.out HNZ.out HNL.out (row_bytes HOW.out HL.out _) ?_); intro cap w9 hx9 hc9; have HC9 := Lib.hid hc9; clear hc9))
      go_ret2
      refine ⟨(HX.out.transNo hx8).trans ((Ext.refl w8 No).alloc _) (fun _ _ f => f) |>.transNo hx9, fun _ => ⟨w8.heap.size + 1, cap, ?_, ?_, ?_⟩, fun h => (h HG.out).elim⟩
      · rw [← HNB.out]; simp
      · have h1 := HX.out.size; have h2 := hx8.size; omega
      · rw [← HNB.out]
        have h := HC9.out
        simpa using h
    · have hlj : j < N := by omega
      obtain ⟨b, o, rfl, hh⟩ := HLS.out.resolve_left (by omega)
      obtain ⟨u, hu, hB⟩ := hh j hlj
      have hu' := hx.cellNo hu
      have HB := Lib.hid (hB.ext hx); clear hB
      have HVB := Lib.hid hvb; clear hvb
      have HG := Lib.hid hgood; clear hgood
      have hc2' : ∀ o, (wr.alloc o).cell? ⟨w1.heap.size, 2, none⟩ = some (.int .u64 (out : Nat)) := fun o => cell_alloc hc2 o
      have HX := Lib.hid hx; clear hx
      have l3 := HX3.out.size
      have l4 : w3.heap.size < wr.heap.size := World.block_lt_of_cell? _ _ hcg
      have l5 := World.block_lt_of_cell? _ _ hu'
      have l6 := World.block_lt_of_cell? _ _ hu
      have l7 := lt_of_blk HVB.out
      have i1 : (0 : Int) ≤ (j : Int) := by omega
      have i2 : (j : Int) < (N : Int) := by omega
      have hdis : ∀ b' o' m' c', u = .slice (some ⟨b', o', none⟩) m' c' → m' ≠ 0 → b' ≠ wr.heap.size + 1 := by
        intro b' o' m' c' he hm'
        obtain ⟨-, a2, c2, he2, -, -, h4⟩ := HB.out
        rw [he] at he2
        simp only [Value.slice.injEq] at he2
        rcases h4 with h4 | ⟨b3, o3, ha3, h5⟩
        · omega
        · rw [ha3] at he2
          simp only [Option.some.injEq, Addr.mk.injEq] at he2
          have := World.block_lt_of_cell? _ _ (h5 0 (by omega))
          simp at this
          omega
      have HDIS := Lib.hid hdis; clear hdis
      by_cases hg : good 16 P128 out (ls.getD j [])
      · go_wp2_with (first
          | (go_at_call 35; refine (osNew128 hn (blk_new _ _) (hc2' _)).mono ?_; rintro e w5 ⟨rfl, hw5⟩; obtain ⟨q1, q2, q3⟩ := mkNew128 hw5; have K5 := (osUnmBin128 (vc := out) (ls.getD j []) q1 q2 (by simp [size_madeCells]; omega) h0 hn (HB.out.ext q3) HDIS.out).mono (fun e w' h => h.1 hg); have HK5 := Lib.hid K5; have HQ1 := Lib.hid q1; have HQ3 := Lib.hid q3; clear K5 q1 q2 q3 hw5)
          | (go_at_call 36; refine HK5.out.mono ?_; rintro e w6 ⟨rfl, hx6, hb6⟩; have hg6 := hx6.cell (HQ3.out.cellNo hcg) (show ¬ w3.heap.size = wr.heap.size + 1 by omega); have ho6 := hx6.cell HQ1.out (by simp); have hv6 := hx6.blk (HQ3.out.blkNo HVB.out) (show ¬ vb = wr.heap.size + 1 by omega); have K6 := updHist (kb := kb) (xc := out) hg6 ho6 (sumN_len P128 16 out tom128 (ls.take j)) (by rw [List.length_map, chunks_len]) (fun i hi => sumN_lt P128 16 out tom128 (by decide) (ls.take j) i hi) (mapLt128 16 out (ls.getD j [])) hv6 hb6 (by omega) hn; have HK6 := Lib.hid K6; have hx6' : Ext wr w6 No := HQ3.out.trans hx6 (fun i hi h => by omega); have HX6 := Lib.hid hx6'; clear K6 hg6 ho6 hv6 hb6 hx6 hx6')
          | (go_at_call 214; refine HK6.out.mono ?_; rintro e w7 ⟨rfl, hx7, hb7⟩))
        refine ⟨⟨j + 1, by omega, by go_num, (HX.out.transNo HX6.out).trans hx7 (fun i hi h => by omega), hx7.cell (HX6.out.cellNo hc2) (show ¬ w1.heap.size = vb by omega), hx7.cell (HX6.out.cellNo hcg) (show ¬ w3.heap.size = vb by omega), ?_, ?_⟩, by simp [intOf]; omega⟩
        · rw [take_snocL ls j (by have := HN.out; omega), sumN_snoc]
          exact hb7
        · intro i hi
          by_cases h : i = j
          · subst h; exact hg
          · exact HG.out i (by omega)
      · go_wp2_with (first
          | (go_at_call 35; refine (osNew128 hn (blk_new _ _) (hc2' _)).mono ?_; rintro e w5 ⟨rfl, hw5⟩; obtain ⟨q1, q2, q3⟩ := mkNew128 hw5; have K5 := (osUnmBin128 (vc := out) (ls.getD j []) q1 q2 (by simp [size_madeCells]; omega) h0 hn (HB.out.ext q3) HDIS.out).mono (fun e w' h => h.2 hg); have HK5 := Lib.hid K5; have HQ1 := Lib.hid q1; have HQ3 := Lib.hid q3; clear K5 q1 q2 q3 hw5)
          | (go_at_call 36; refine HK5.out.mono ?_; rintro e w6 ⟨⟨t, p, rfl⟩, hx6⟩))
        go_ret2
        exact ⟨HX.out.transNo (HQ3.out.trans hx6 (fun i hi h => by omega)), fun h => absurd (h j hlj) hg, fun _ => rfl⟩
end Go.Proofs.YtlmmdldjfpdcfaaGreatDoor
