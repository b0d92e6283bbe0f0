/-
  FnAddTurns: at any parameters.
-/
import Derived.Test.YtlmmdldjfpdcfaaGreatDoorM45
import Derived.Test.YtlmmdldjfpdcfaaGreatDoorExaB
namespace Go.Proofs.YtlmmdldjfpdcfaaGreatDoor
open Go.RowKit

set_option maxRecDepth 100000 in
set_option maxHeartbeats 4000000 in
theorem turnNo {k s n b c m : Int} {L C : Nat} {a : Option Addr} {u : Value} {ls : List (List Nat)} {w : World} (hS : IsBs w u ls) (hno : ¬ ((0 ≤ s ∧ s ≤ 255 ∧ 0 ≤ n ∧ n ≤ 16 ∧ 0 ≤ b ∧ b ≤ 80 ∧ 0 ≤ c ∧ c ≤ 16 ∧ L ≤ 4096) ∧ kindI k s n b c m L ∧ ls.length ≤ 300)) :
    Calls Tryz.prog 5 #[parI k s n b c m (.slice a L C), u] w fun e w' => e = .returned (.bool true) ∧ Ext w w' No := by
  have h7 := fun w' (hx : Ext w w' No) => fits2 (hS.ext hx)
  obtain ⟨la, lc, rfl, -⟩ := hS
  have H7 := Lib.hid h7; clear h7
  by_cases hsm : (0 ≤ s ∧ s ≤ 255 ∧ 0 ≤ n ∧ n ≤ 16 ∧ 0 ≤ b ∧ b ≤ 80 ∧ 0 ≤ c ∧ c ≤ 16 ∧ L ≤ 4096)
  · have D8 : Hid (decide (0 ≤ s ∧ s ≤ 255 ∧ 0 ≤ n ∧ n ≤ 16 ∧ 0 ≤ b ∧ b ≤ 80 ∧ 0 ≤ c ∧ c ≤ 16 ∧ L ≤ 4096) = true) := decide_eq_true hsm
    by_cases hki : kindI k s n b c m L
    · have hN : ¬ ls.length ≤ 300 := fun h => hno ⟨hsm, hki, h⟩
      have HKI := Lib.hid hki
      have d1 : decide ((300 : Int) < (ls.length : Int)) = true := decide_eq_true (by omega)
      have d2 : decide (300 < ls.length) = true := decide_eq_true (by omega)
      clear hsm hki hno hN
      unfold parI at *
      go_enter Tryz.func5, Tryz.ntmps5
      go_wp2_with (first
      | (go_at_call 6; refine (fits1 _).mono ?_; rintro e w1 ⟨rfl, hx1⟩; have q := hx1.blkNo (blk_new _ _); have c0 : w1.cell? ⟨w.heap.size, 0, none⟩ = some (.int .i64 k) := blk_cell q 0; have c1 : w1.cell? ⟨w.heap.size, 1, none⟩ = some (.int .i64 s) := blk_cell q 1; have c2 : w1.cell? ⟨w.heap.size, 2, none⟩ = some (.int .i64 n) := blk_cell q 2; have c3 : w1.cell? ⟨w.heap.size, 3, none⟩ = some (.int .i64 b) := blk_cell q 3; have c4 : w1.cell? ⟨w.heap.size, 4, none⟩ = some (.int .i64 c) := blk_cell q 4; have c5 : w1.cell? ⟨w.heap.size, 5, none⟩ = some (.int .u64 m) := blk_cell q 5; have c6 : w1.cell? ⟨w.heap.size, 6, none⟩ = some (.slice a L C) := blk_cell q 6; have HQ1 := Lib.hid q; clear q; have hx01 := ((Ext.refl w No).alloc _).transNo hx1; have HX1 := Lib.hid hx01; clear hx1 hx01)
      | (go_at_call 7; refine (H7.out _ HX1.out).mono ?_; rintro e w2 ⟨⟨r, rfl⟩, rfl⟩)
      | (go_at_call 8; refine (isSmall _).mono ?_; rintro e w2 ⟨rfl, hx2⟩; rw [D8.out]; clear c0 c1 c2 c3 c4 c5 c6; have q := hx2.blkNo HQ1.out; have c0 : w2.cell? ⟨w.heap.size, 0, none⟩ = some (.int .i64 k) := blk_cell q 0; have c1 : w2.cell? ⟨w.heap.size, 1, none⟩ = some (.int .i64 s) := blk_cell q 1; have c2 : w2.cell? ⟨w.heap.size, 2, none⟩ = some (.int .i64 n) := blk_cell q 2; have c3 : w2.cell? ⟨w.heap.size, 3, none⟩ = some (.int .i64 b) := blk_cell q 3; have c4 : w2.cell? ⟨w.heap.size, 4, none⟩ = some (.int .i64 c) := blk_cell q 4; have c5 : w2.cell? ⟨w.heap.size, 5, none⟩ = some (.int .u64 m) := blk_cell q 5; have c6 : w2.cell? ⟨w.heap.size, 6, none⟩ = some (.slice a L C) := blk_cell q 6; have HQ2 := Lib.hid q; clear q; have hx02 := HX1.out.transNo hx2; have HX2 := Lib.hid hx02; clear hx2 hx02)
      | (go_at_call 9; refine (isKind _).mono ?_; rintro e w3 ⟨hk, hx3⟩; obtain ⟨r9, rfl, hr9⟩ := hk; obtain rfl := hr9.2 HKI.out; clear hr9; clear c0 c1 c2 c3 c4 c5 c6; have q := hx3.blkNo HQ2.out; have c0 : w3.cell? ⟨w.heap.size, 0, none⟩ = some (.int .i64 k) := blk_cell q 0; have c1 : w3.cell? ⟨w.heap.size, 1, none⟩ = some (.int .i64 s) := blk_cell q 1; have c2 : w3.cell? ⟨w.heap.size, 2, none⟩ = some (.int .i64 n) := blk_cell q 2; have c3 : w3.cell? ⟨w.heap.size, 3, none⟩ = some (.int .i64 b) := blk_cell q 3; have c4 : w3.cell? ⟨w.heap.size, 4, none⟩ = some (.int .i64 c) := blk_cell q 4; have c5 : w3.cell? ⟨w.heap.size, 5, none⟩ = some (.int .u64 m) := blk_cell q 5; have c6 : w3.cell? ⟨w.heap.size, 6, none⟩ = some (.slice a L C) := blk_cell q 6; have HQ3 := Lib.hid q; clear q; have hx03 := HX2.out.transNo hx3; have HX3 := Lib.hid hx03; clear hx3 hx03))
      all_goals
        go_ret
        first
          | exact ⟨rfl, HX3.out⟩
          | exact ⟨rfl, HX2.out⟩
          | exact ⟨rfl, HX1.out⟩
    · have HKI := Lib.hid hki
      clear hsm hki hno
      unfold parI at *
      go_enter Tryz.func5, Tryz.ntmps5
      go_wp2_with (first
      | (go_at_call 6; refine (fits1 _).mono ?_; rintro e w1 ⟨rfl, hx1⟩; have q := hx1.blkNo (blk_new _ _); have c0 : w1.cell? ⟨w.heap.size, 0, none⟩ = some (.int .i64 k) := blk_cell q 0; have c1 : w1.cell? ⟨w.heap.size, 1, none⟩ = some (.int .i64 s) := blk_cell q 1; have c2 : w1.cell? ⟨w.heap.size, 2, none⟩ = some (.int .i64 n) := blk_cell q 2; have c3 : w1.cell? ⟨w.heap.size, 3, none⟩ = some (.int .i64 b) := blk_cell q 3; have c4 : w1.cell? ⟨w.heap.size, 4, none⟩ = some (.int .i64 c) := blk_cell q 4; have c5 : w1.cell? ⟨w.heap.size, 5, none⟩ = some (.int .u64 m) := blk_cell q 5; have c6 : w1.cell? ⟨w.heap.size, 6, none⟩ = some (.slice a L C) := blk_cell q 6; have HQ1 := Lib.hid q; clear q; have hx01 := ((Ext.refl w No).alloc _).transNo hx1; have HX1 := Lib.hid hx01; clear hx1 hx01)
      | (go_at_call 7; refine (H7.out _ HX1.out).mono ?_; rintro e w2 ⟨⟨r, rfl⟩, rfl⟩)
      | (go_at_call 8; refine (isSmall _).mono ?_; rintro e w2 ⟨rfl, hx2⟩; rw [D8.out]; clear c0 c1 c2 c3 c4 c5 c6; have q := hx2.blkNo HQ1.out; have c0 : w2.cell? ⟨w.heap.size, 0, none⟩ = some (.int .i64 k) := blk_cell q 0; have c1 : w2.cell? ⟨w.heap.size, 1, none⟩ = some (.int .i64 s) := blk_cell q 1; have c2 : w2.cell? ⟨w.heap.size, 2, none⟩ = some (.int .i64 n) := blk_cell q 2; have c3 : w2.cell? ⟨w.heap.size, 3, none⟩ = some (.int .i64 b) := blk_cell q 3; have c4 : w2.cell? ⟨w.heap.size, 4, none⟩ = some (.int .i64 c) := blk_cell q 4; have c5 : w2.cell? ⟨w.heap.size, 5, none⟩ = some (.int .u64 m) := blk_cell q 5; have c6 : w2.cell? ⟨w.heap.size, 6, none⟩ = some (.slice a L C) := blk_cell q 6; have HQ2 := Lib.hid q; clear q; have hx02 := HX1.out.transNo hx2; have HX2 := Lib.hid hx02; clear hx2 hx02)
      | (go_at_call 9; refine (isKind _).mono ?_; rintro e w3 ⟨hk, hx3⟩; obtain ⟨r9, rfl, hr9⟩ := hk; obtain rfl := Bool.eq_false_iff.2 (fun e => HKI.out (hr9.1 e)); clear hr9; clear c0 c1 c2 c3 c4 c5 c6; have q := hx3.blkNo HQ2.out; have c0 : w3.cell? ⟨w.heap.size, 0, none⟩ = some (.int .i64 k) := blk_cell q 0; have c1 : w3.cell? ⟨w.heap.size, 1, none⟩ = some (.int .i64 s) := blk_cell q 1; have c2 : w3.cell? ⟨w.heap.size, 2, none⟩ = some (.int .i64 n) := blk_cell q 2; have c3 : w3.cell? ⟨w.heap.size, 3, none⟩ = some (.int .i64 b) := blk_cell q 3; have c4 : w3.cell? ⟨w.heap.size, 4, none⟩ = some (.int .i64 c) := blk_cell q 4; have c5 : w3.cell? ⟨w.heap.size, 5, none⟩ = some (.int .u64 m) := blk_cell q 5; have c6 : w3.cell? ⟨w.heap.size, 6, none⟩ = some (.slice a L C) := blk_cell q 6; have HQ3 := Lib.hid q; clear q; have hx03 := HX2.out.transNo hx3; have HX3 := Lib.hid hx03; clear hx3 hx03))
      all_goals
        go_ret
        first
          | exact ⟨rfl, HX3.out⟩
          | exact ⟨rfl, HX2.out⟩
          | exact ⟨rfl, HX1.out⟩
  · have D8 : Hid (decide (0 ≤ s ∧ s ≤ 255 ∧ 0 ≤ n ∧ n ≤ 16 ∧ 0 ≤ b ∧ b ≤ 80 ∧ 0 ≤ c ∧ c ≤ 16 ∧ L ≤ 4096) = false) := decide_eq_false hsm
    clear hsm hno
    unfold parI at *
    go_enter Tryz.func5, Tryz.ntmps5
    go_wp2_with (first
    | (go_at_call 6; refine (fits1 _).mono ?_; rintro e w1 ⟨rfl, hx1⟩; have q := hx1.blkNo (blk_new _ _); have c0 : w1.cell? ⟨w.heap.size, 0, none⟩ = some (.int .i64 k) := blk_cell q 0; have c1 : w1.cell? ⟨w.heap.size, 1, none⟩ = some (.int .i64 s) := blk_cell q 1; have c2 : w1.cell? ⟨w.heap.size, 2, none⟩ = some (.int .i64 n) := blk_cell q 2; have c3 : w1.cell? ⟨w.heap.size, 3, none⟩ = some (.int .i64 b) := blk_cell q 3; have c4 : w1.cell? ⟨w.heap.size, 4, none⟩ = some (.int .i64 c) := blk_cell q 4; have c5 : w1.cell? ⟨w.heap.size, 5, none⟩ = some (.int .u64 m) := blk_cell q 5; have c6 : w1.cell? ⟨w.heap.size, 6, none⟩ = some (.slice a L C) := blk_cell q 6; have HQ1 := Lib.hid q; clear q; have hx01 := ((Ext.refl w No).alloc _).transNo hx1; have HX1 := Lib.hid hx01; clear hx1 hx01)
    | (go_at_call 7; refine (H7.out _ HX1.out).mono ?_; rintro e w2 ⟨⟨r, rfl⟩, rfl⟩)
    | (go_at_call 8; refine (isSmall _).mono ?_; rintro e w2 ⟨rfl, hx2⟩; rw [D8.out]; clear c0 c1 c2 c3 c4 c5 c6; have q := hx2.blkNo HQ1.out; have c0 : w2.cell? ⟨w.heap.size, 0, none⟩ = some (.int .i64 k) := blk_cell q 0; have c1 : w2.cell? ⟨w.heap.size, 1, none⟩ = some (.int .i64 s) := blk_cell q 1; have c2 : w2.cell? ⟨w.heap.size, 2, none⟩ = some (.int .i64 n) := blk_cell q 2; have c3 : w2.cell? ⟨w.heap.size, 3, none⟩ = some (.int .i64 b) := blk_cell q 3; have c4 : w2.cell? ⟨w.heap.size, 4, none⟩ = some (.int .i64 c) := blk_cell q 4; have c5 : w2.cell? ⟨w.heap.size, 5, none⟩ = some (.int .u64 m) := blk_cell q 5; have c6 : w2.cell? ⟨w.heap.size, 6, none⟩ = some (.slice a L C) := blk_cell q 6; have HQ2 := Lib.hid q; clear q; have hx02 := HX1.out.transNo hx2; have HX2 := Lib.hid hx02; clear hx2 hx02)
    | (go_at_call 9; refine (isKind _).mono ?_; rintro e w3 ⟨hk, hx3⟩; skip; clear c0 c1 c2 c3 c4 c5 c6; have q := hx3.blkNo HQ2.out; have c0 : w3.cell? ⟨w.heap.size, 0, none⟩ = some (.int .i64 k) := blk_cell q 0; have c1 : w3.cell? ⟨w.heap.size, 1, none⟩ = some (.int .i64 s) := blk_cell q 1; have c2 : w3.cell? ⟨w.heap.size, 2, none⟩ = some (.int .i64 n) := blk_cell q 2; have c3 : w3.cell? ⟨w.heap.size, 3, none⟩ = some (.int .i64 b) := blk_cell q 3; have c4 : w3.cell? ⟨w.heap.size, 4, none⟩ = some (.int .i64 c) := blk_cell q 4; have c5 : w3.cell? ⟨w.heap.size, 5, none⟩ = some (.int .u64 m) := blk_cell q 5; have c6 : w3.cell? ⟨w.heap.size, 6, none⟩ = some (.slice a L C) := blk_cell q 6; have HQ3 := Lib.hid q; clear q; have hx03 := HX2.out.transNo hx3; have HX3 := Lib.hid hx03; clear hx3 hx03))
    all_goals
      go_ret
      first
        | exact ⟨rfl, HX3.out⟩
        | exact ⟨rfl, HX2.out⟩
        | exact ⟨rfl, HX1.out⟩
theorem turnAll {k s n b c m : Int} {L C : Nat} {a : Option Addr} {u : Value} {l : List Nat} {ls : List (List Nat)} {w : World} (hB : IsB w (.slice a L C) l) (hlL : l.length = L) (hnil : ∀ m c, Value.slice a L C = .slice none m c → c = 0) (hm0 : 0 ≤ m) (hm1 : m ≤ 18446744073709551615)
    (hD : Deb w) (hS : IsBs w u ls) (hln : ∀ a L C, u = .slice a L C → a = none → C = 0) : Calls Tryz.prog 5 #[parI k s n b c m (.slice a L C), u] w fun e w' => e = .returned (.bool true) ∧ Ext w w' No := by
  by_cases hall : (0 ≤ s ∧ s ≤ 255 ∧ 0 ≤ n ∧ n ≤ 16 ∧ 0 ≤ b ∧ b ≤ 80 ∧ 0 ≤ c ∧ c ≤ 16 ∧ L ≤ 4096) ∧ kindI k s n b c m L ∧ ls.length ≤ 300
  · obtain ⟨hsm, hki, hN⟩ := hall
    obtain ⟨k, s, n, b, c, m, rfl, rfl, rfl, rfl, rfl, rfl, hs0, hs, hn, hb, hc, hm, hL, hk⟩ := kind_nat hsm hki hm0 hm1
    have hl : l.length ≤ 65527 := by omega
    rcases hk with rfl | ⟨rfl, h2⟩ | ⟨rfl, hn0, hb0, hb64, hc0⟩ | ⟨rfl, hn0, hc0⟩ | ⟨rfl, hn0, hc0, hmn⟩
    · exact turnG out64_len (by decide) hL ⟨hs, hn, hb, hc⟩ hki hS hln hN (fun w' u' ls' hx hS' hN' => implAdd1 l (hB.ext hx) hnil hl hs0 hs (hD.extNo hx) hS' hN') (fun w' u' ls' hx hS' hN' => specAdd64 hki hn hb hc hm (by omega) hS' hN')
    · exact turnG out64_len (by decide) hL ⟨hs, hn, hb, hc⟩ hki hS hln hN (fun w' u' ls' hx hS' hN' => implAdd2 l (hB.ext hx) hnil hl hs0 hs h2 (hD.extNo hx) hS' hN') (fun w' u' ls' hx hS' hN' => specAdd64 hki hn hb hc hm (by omega) hS' hN')
    · exact turnG out128_len (by omega) hL ⟨hs, hn, hb, hc⟩ hki hS hln hN (fun w' u' ls' hx hS' hN' => implAdd3 l (hB.ext hx) hnil hl hs0 hs hn0 hn hb0 hb64 hc0 hc (hD.extNo hx) hS' hN') (fun w' u' ls' hx hS' hN' => specAdd128 hki hn0 hn hb hc0 hc hm (by omega) hS' hN')
    · exact turnG out128_len (by omega) hL ⟨hs, hn, hb, hc⟩ hki hS hln hN (fun w' u' ls' hx hS' hN' => implAdd4 l (hB.ext hx) hnil hl hs0 hs hn0 hn hc0 hc (hD.extNo hx) hS' hN') (fun w' u' ls' hx hS' hN' => specAdd128 hki hn0 hn hb hc0 hc hm (by omega) hS' hN')
    · exact turnG out128_len (by omega) hL ⟨hs, hn, hb, hc⟩ hki hS hln hN (fun w' u' ls' hx hS' hN' => implAdd5 l (hB.ext hx) hnil hl hs0 hs hn0 hn hmn hc0 hc (hD.extNo hx) hS' hN') (fun w' u' ls' hx hS' hN' => specAdd128 hki hn0 hn hb hc0 hc hm (by omega) hS' hN')
  · exact turnNo hS hall
end Go.Proofs.YtlmmdldjfpdcfaaGreatDoor
