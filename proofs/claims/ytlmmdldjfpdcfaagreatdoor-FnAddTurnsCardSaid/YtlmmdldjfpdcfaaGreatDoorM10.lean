/-
  The appends that NewXof makes; a new sponge.
-/
import Derived.Test.YtlmmdldjfpdcfaaGreatDoorM09
namespace Go.Proofs.YtlmmdldjfpdcfaaGreatDoor
open Go.RowKit

theorem appLE16 {g n cap : Nat} {x : Int} {w : World} (hR : Row g cap w) (hroom : n + 2 ≤ cap) :
    Calls Tryz.prog 83 #[.slice (some ⟨g, 0, none⟩) n cap, .int .u16 x] w fun e w' => e = .returned (.slice (some ⟨g, 0, none⟩) (n + 2) cap) ∧ Ext w w' (fun k => k = g) ∧ Row g cap w' := by
  have HR := Lib.hid hR; clear hR
  go_enter Tryz.func83, Tryz.ntmps83
  go_wp2_with ((with_reducible refine wpList_append_row _ rfl (.tmp 5) (.tmp 11) rfl g n cap rfl (HR.out.alloc _) (some ⟨w.heap.size, 0, none⟩) 2 2 rfl [_, _] rfl no_none (src_new _ _ _) (by simp [Value.oneCell']) hroom ?_); intro w1 hx1 hR1; have HR1 := Lib.hid hR1; clear hR1)
  go_ret
  exact ⟨rfl, ((Ext.refl w _).alloc _).trans hx1 (fun _ _ h => h), HR1.out⟩
theorem appBE32 {g n cap : Nat} {x : Int} {w : World} (hR : Row g cap w) (hroom : n + 4 ≤ cap) :
    Calls Tryz.prog 84 #[.slice (some ⟨g, 0, none⟩) n cap, .int .u32 x] w fun e w' => e = .returned (.slice (some ⟨g, 0, none⟩) (n + 4) cap) ∧ Ext w w' (fun k => k = g) ∧ Row g cap w' := by
  have HR := Lib.hid hR; clear hR
  go_enter Tryz.func84, Tryz.ntmps84
  go_wp2_with ((with_reducible refine wpList_append_row _ rfl (.tmp 5) (.tmp 17) rfl g n cap rfl (HR.out.alloc _) (some ⟨w.heap.size, 0, none⟩) 4 4 rfl [_, _, _, _] rfl no_none (src_new _ _ _) (by simp [Value.oneCell']) hroom ?_); intro w1 hx1 hR1; have HR1 := Lib.hid hR1; clear hR1)
  go_ret
  exact ⟨rfl, ((Ext.refl w _).alloc _).trans hx1 (fun _ _ h => h), HR1.out⟩
theorem appBE16 {g n cap : Nat} {x : Int} {w : World} (hR : Row g cap w) (hroom : n + 2 ≤ cap) :
    Calls Tryz.prog 85 #[.slice (some ⟨g, 0, none⟩) n cap, .int .u16 x] w fun e w' => e = .returned (.slice (some ⟨g, 0, none⟩) (n + 2) cap) ∧ Ext w w' (fun k => k = g) ∧ Row g cap w' := by
  have HR := Lib.hid hR; clear hR
  go_enter Tryz.func85, Tryz.ntmps85
  go_wp2_with ((with_reducible refine wpList_append_row _ rfl (.tmp 5) (.tmp 11) rfl g n cap rfl (HR.out.alloc _) (some ⟨w.heap.size, 0, none⟩) 2 2 rfl [_, _] rfl no_none (src_new _ _ _) (by simp [Value.oneCell']) hroom ?_); intro w1 hx1 hR1; have HR1 := Lib.hid hR1; clear hR1)
  go_ret
  exact ⟨rfl, ((Ext.refl w _).alloc _).trans hx1 (fun _ _ h => h), HR1.out⟩

theorem newSponge (w : World) : Calls Tryz.prog 86 #[.int .u8 1] w fun e w' => (∃ cs : Array Value, e = .returned (.agg cs) ∧ cs.size = 200 ∧ cs.all (·.oneCell') = true) ∧ Ext w w' No := by
  have hB : Big w.heap.size 136 200 (w.alloc (.cells Tryz.zeroCells136 136)) := Big.new w _ z136.1 z136.2
  have HB := Lib.hid hB; clear hB
  have hsz : (((Tryz.zeroCells136.setIfInBounds 25 (.int .i64 168)).setIfInBounds 28 (.int .u8 1)).setIfInBounds 199 (.bool true)).size = 200 := by kernel_rfl
  have hall : (((Tryz.zeroCells136.setIfInBounds 25 (.int .i64 168)).setIfInBounds 28 (.int .u8 1)).setIfInBounds 199 (.bool true)).all (·.oneCell') = true := by kernel_rfl
  have HS := Lib.hid hsz; clear hsz
  have HA := Lib.hid hall; clear hall
  go_enter Tryz.func86, Tryz.ntmps86
  go_wp2_with ((with_reducible refine wpList_store_big _ rfl 136 (.tmp 2) (.tmp 11) rfl w.heap.size 0 136 200 rfl _ rfl HB.out (by rw [HS.out]; decide) (by rw [HS.out]; exact info136) HA.out ?_); intro w1 hx1 hB1 _ _; have HB1 := Lib.hid hB1; clear hB1)
  refine bodyPost_big (fn := Tryz.f86) rfl rfl rfl HB1.out Tryz.underlying136 rfl info136 (fun cs h1 h2 _ => ⟨⟨cs, rfl, h1, h2⟩, ?_⟩)
  exact ((Ext.refl w No).alloc _).trans hx1 (fun i hi h => by subst h; exact absurd hi (Nat.lt_irrefl _))
end Go.Proofs.YtlmmdldjfpdcfaaGreatDoor

/-
  NewXof over fp64.
-/
namespace Go.Proofs.YtlmmdldjfpdcfaaGreatDoor
open Go.RowKit

theorem makeB {c : Int} {n : Nat} (h : c = n) (hn : n ≤ 100000) (w : World) : (Instr.makeSlice 23 (.int .i64 0) (.int .u64 c)).run Tryz.prog w =
    .ok (.slice (some ⟨w.heap.size, 0, none⟩) 0 n) (w.alloc (.cells (madeCells #[.int .u8 0] n) 5)) := by
  subst h
  obtain ⟨i, hi, hz, hs, hb⟩ := of_info info5
  have h := run_make w 23 5 i _ Tryz.underlying23 hi hz .i64 .u64 0 n (by omega) (by omega) (by rw [hb]; omega) (by omega)
  simpa [hs, Value.cells] using h
theorem src_new2 {b : Nat} (w : World) (cs : List Value) (t : TypeId) (hb : b = w.heap.size) (ad : Addr) (h : some (⟨b, 0, none⟩ : Addr) = some ad) (j : Nat) (u : Value) (hu : cs[j]? = some u) : (w.alloc (.cells cs.toArray t)).cell? (ad.add j) = some u := by
  subst hb; exact src_new w cs t ad h j u hu

/-- The sponge at the first block behind w0, its row of bytes at the second. -/
def Xs (t : TypeId) (w0 : World) (cap : Nat) (w : World) : Prop := Big w0.heap.size t 202 w ∧ Row (w0.heap.size + 1) cap w ∧ Ext w0 w No
theorem Xs.row {t : TypeId} {w0 : World} {cap : Nat} {w : World} (h : Xs t w0 cap w) : Row (w0.heap.size + 1) cap w := h.2.1
theorem Xs.big {t : TypeId} {w0 : World} {cap : Nat} {w : World} (h : Xs t w0 cap w) : Big w0.heap.size t 202 w := h.1
theorem Xs.old {t : TypeId} {w0 : World} {cap : Nat} {w : World} (h : Xs t w0 cap w) : Ext w0 w No := h.2.2
theorem Xs.ext {t : TypeId} {w0 : World} {cap : Nat} {w w' : World} (h : Xs t w0 cap w) (hx : Ext w w' (fun k => k = w0.heap.size + 1)) (hR : Row (w0.heap.size + 1) cap w') : Xs t w0 cap w' :=
  ⟨h.1.ext hx (by omega), hR, h.2.2.trans hx (fun i hi h => by omega)⟩
theorem Xs.extNo {t : TypeId} {w0 : World} {cap : Nat} {w w' : World} (h : Xs t w0 cap w) (hx : Ext w w' No) : Xs t w0 cap w' := ⟨h.1.extNo hx, h.2.1.extNo hx, h.2.2.transNo hx⟩
theorem Xs.alloc {t : TypeId} {w0 : World} {cap : Nat} {w : World} (h : Xs t w0 cap w) (o : Obj) : Xs t w0 cap (w.alloc o) := h.extNo ((Ext.refl w No).alloc o)
theorem Xs.set {t : TypeId} {w0 : World} {cap : Nat} {w : World} (h : Xs t w0 cap w) (i : Nat) {v : Value} (hv : v.oneCell' = true) : Xs t w0 cap (w.setCell ⟨w0.heap.size, i, none⟩ v) :=
  ⟨h.1.set i hv, h.2.1.ext (Ext.set (S := fun k => k = w0.heap.size) (Ext.refl w _) (.inr rfl) v) (by omega), h.2.2.set (.inl (Nat.le_refl _)) v⟩
theorem Xs.store {t : TypeId} {w0 : World} {cap : Nat} {w w' : World} (h : Xs t w0 cap w) (hx : Ext w w' (fun k => k = w0.heap.size)) (hB : Big w0.heap.size t 202 w') : Xs t w0 cap w' :=
  ⟨hB, h.2.1.ext hx (by omega), h.2.2.trans hx (fun i hi h => by omega)⟩

set_option maxRecDepth 20000 in
set_option maxHeartbeats 1000000 in
theorem newXof64 {v : Value} {k : Int} {w : World} (l : List Nat) (hB : IsB w v l) (hnil : ∀ m c, v = .slice none m c → c = 0) (hl : l.length ≤ 65527) :
    Calls Tryz.prog 67 #[.int .u32 k, v] w fun e w' => (∃ cs : Array Value, e = .returned (.tuple #[.agg cs, .nilIface]) ∧ cs.size = 202 ∧ cs.all (·.oneCell') = true) ∧ Ext w w' No := by
  obtain ⟨hlt, a, c, rfl, hmc, hc, hcell⟩ := hB
  have hsrc : ∀ w', Ext w w' No → ∀ ad, a = some ad → ∀ j u, (u8s l)[j]? = some u → w'.cell? (ad.add j) = some u := by
    intro w' hx ad had j u hu
    obtain ⟨hj, rfl⟩ := u8s_get _ _ _ hu
    rcases hcell with h | ⟨b, o, h, hh⟩
    · omega
    · obtain rfl := Option.some.inj (had.symm.trans h)
      rw [add0]
      exact hx.cellNo (hh j hj)
  have hnn : a = none → l.length = 0 ∧ c = 0 := by
    rintro rfl
    refine ⟨?_, hnil _ _ rfl⟩
    rcases hcell with h | ⟨b, o, h, -⟩
    · exact h
    · simp at h
  obtain ⟨n, hn⟩ : ∃ n, n = l.length := ⟨_, rfl⟩
  rw [← hn] at hmc hl hnn ⊢
  have hul : (u8s l).length = n := by rw [u8s_len, hn]
  have HU := Lib.hid hul; clear hul
  have HN := Lib.hid hnn; clear hnn
  have HSR := Lib.hid hsrc; clear hsrc hcell
  clear hlt hn hnil
  obtain ⟨cap, hcap⟩ : ∃ cap, cap = n + 11 := ⟨_, rfl⟩
  have HC := Lib.hid hcap; clear hcap
  have hm := makeB (c := 2 + (8 + (n : Int)) + 1) (n := cap) (by have := HC.out; omega) (by have := HC.out; omega)
  have h0 : Xs 138 w cap ((w.alloc (.cells (Tryz.zeroCells138.setIfInBounds 1 (.slice (some ⟨w.heap.size + 1, 0, none⟩) 0 cap)) 138)).alloc (.cells (madeCells #[.int .u8 0] cap) 5)) := by
    refine ⟨(Big.new w _ (by rw [Array.size_setIfInBounds]; exact z138.1) (by
      have h := (Big.new (t := 138) w _ z138.1 z138.2).set 1 (v := .slice (some ⟨w.heap.size + 1, 0, none⟩) 0 cap) rfl
      obtain ⟨cur, hb, -, ha⟩ := h
      rw [blk_set (blk_new _ _)] at hb
      obtain rfl := (Obj.cells.inj (Option.some.inj hb)).1
      exact ha)).alloc _, ⟨madeCells #[.int .u8 0] cap, ?_, size_madeCells _ _⟩, ((Ext.refl w No).alloc _).alloc _⟩
    have h := blk_new (w.alloc (.cells (Tryz.zeroCells138.setIfInBounds 1 (.slice (some ⟨w.heap.size + 1, 0, none⟩) 0 cap)) 138)) (.cells (madeCells #[.int .u8 0] cap) 5)
    simpa using h
  have HX0 := Lib.hid h0; clear h0
  have hc10 : (10 : Int) ≤ (cap : Int) := by have := HC.out; omega
  have harr : ∀ (b c : Nat) (w : World), (Instr.arrayAt 342 (.slice (some ⟨b, 8, none⟩) 2 c)).run Tryz.prog w = .ok (.pointer (some ⟨b, 8, none⟩)) w := fun _ _ _ => by kernel_rfl
  go_enter Tryz.func67, Tryz.ntmps67
  go_wp2_with (first
    | (go_at_call 83; refine (appLE16 (n := 0) (Xs.row HX0.out) (by have := HC.out; omega)).mono ?_; rintro e w3 ⟨rfl, hx3, hR3⟩; have h3 := HX0.out.ext hx3 hR3; clear hx3 hR3; obtain ⟨u3, hc3, -⟩ := h3.1.cell 1 (by decide); have hf3 := h3.1.frz 1; have HX3 := Lib.hid h3; clear h3)
    | ((with_reducible refine at_dst 33 ?_); (with_reducible refine wpList_append_row _ rfl (.tmp 31) (.tmp 32) rfl (w.heap.size + 1) 2 cap rfl (Xs.row ((HX3.out.set 1 rfl).alloc _)) (some ⟨w3.heap.size, 0, none⟩) 1 1 rfl [_] rfl no_none (src_new2 _ _ _ (by simp)) (by simp [Value.oneCell']) (by have := HC.out; omega) ?_); intro w4 hx4 hR4; have h4 := ((HX3.out.set 1 rfl).alloc _).ext hx4 hR4; clear hx4 hR4; obtain ⟨u4, hc4, -⟩ := h4.1.cell 1 (by decide); have hf4 := h4.1.frz 1; have HX4 := Lib.hid h4; clear h4)
    | ((with_reducible refine at_dst 38 ?_); (with_reducible refine wpList_append_row _ rfl (.tmp 36) (.tmp 37) rfl (w.heap.size + 1) 3 cap rfl (Xs.row ((HX4.out.set 1 rfl).alloc _)) (some ⟨w4.heap.size, 0, none⟩) 1 1 rfl [_] rfl no_none (src_new2 _ _ _ (by simp)) (by simp [Value.oneCell']) (by have := HC.out; omega) ?_); intro w5 hx5 hR5; have h5 := ((HX4.out.set 1 rfl).alloc _).ext hx5 hR5; clear hx5 hR5; obtain ⟨u5, hc5, -⟩ := h5.1.cell 1 (by decide); have hf5 := h5.1.frz 1; have HX5 := Lib.hid h5; clear h5)
    | (go_at_call 84; refine (appBE32 (n := 4) (Xs.row (HX5.out.set 1 rfl)) (by have := HC.out; omega)).mono ?_; rintro e w6 ⟨rfl, hx6, hR6⟩; have h6 := (HX5.out.set 1 rfl).ext hx6 hR6; clear hx6 hR6; obtain ⟨u6, hc6, -⟩ := h6.1.cell 1 (by decide); have hf6 := h6.1.frz 1; have HX6 := Lib.hid h6; clear h6)
    | (go_at_call 85; refine (appBE16 (n := 8) (Xs.row (HX6.out.set 1 rfl)) (by have := HC.out; omega)).mono ?_; rintro e w7 ⟨rfl, hx7, hR7⟩; have h7 := (HX6.out.set 1 rfl).ext hx7 hR7; clear hx7 hR7; obtain ⟨u7, hc7, -⟩ := h7.1.cell 1 (by decide); have hf7 := h7.1.frz 1; have s7 := h7.set 1 (v := .slice (some ⟨w.heap.size + 1, 0, none⟩) 10 cap) rfl; have HQ7 := Lib.hid (HSR.out _ (Xs.old s7)); have HX7 := Lib.hid h7; clear h7 s7)
    | ((with_reducible refine at_dst 52 ?_); (with_reducible refine wpList_append_row _ rfl (.tmp 50) (.tmp 51) rfl (w.heap.size + 1) 10 cap rfl (Xs.row (HX7.out.set 1 rfl)) a n c rfl (u8s l) HU.out HN.out HQ7.out (u8s_one _) (by have := HC.out; omega) ?_); intro w8 hx8 hR8; have h8 := (HX7.out.set 1 rfl).ext hx8 hR8; clear hx8 hR8; obtain ⟨u8, hc8, -⟩ := h8.1.cell 1 (by decide); have hf8 := h8.1.frz 1; have HX8 := Lib.hid h8; clear h8)
    | ((with_reducible refine at_dst 57 ?_); (with_reducible refine wpList_append_row _ rfl (.tmp 55) (.tmp 56) rfl (w.heap.size + 1) (10 + n) cap rfl (Xs.row ((HX8.out.set 1 rfl).alloc _)) (some ⟨w8.heap.size, 0, none⟩) 1 1 rfl [_] rfl no_none (src_new2 _ _ _ (by simp)) (by simp [Value.oneCell']) (by have := HC.out; omega) ?_); intro w9 hx9 hR9; have h9 := ((HX8.out.set 1 rfl).alloc _).ext hx9 hR9; clear hx9 hR9; obtain ⟨u9, hc9, -⟩ := h9.1.cell 1 (by decide); have hf9 := h9.1.frz 1; obtain ⟨p9, hp9, -⟩ := h9.1.cell 0 (by decide); have hq9 := h9.1.frz 0; have HX9 := Lib.hid h9; clear h9)
    | (go_at_call 86; refine (newSponge _).mono ?_; rintro e w10 ⟨⟨cs, rfl, hcs, hca⟩, hx10⟩; have h10 := ((HX9.out.set 1 rfl).set 0 rfl).extNo hx10; clear hx10; have HX10 := Lib.hid h10; clear h10; have HCS := Lib.hid hcs; clear hcs; have HCA := Lib.hid hca; clear hca)
    | ((with_reducible refine at_store 68 ?_); (with_reducible refine wpList_store_big _ rfl 136 (.tmp 68) (.tmp 67) rfl w.heap.size 2 138 202 rfl cs rfl (Xs.big HX10.out) (by rw [HCS.out]; decide) (by rw [HCS.out]; exact info136) HCA.out ?_); intro w11 hx11 hB11 _ _; have h11 := HX10.out.store hx11 hB11; clear hx11 hB11; have HX11 := Lib.hid h11; clear h11)
    | ((with_reducible refine at_dst 69 ?_); (with_reducible refine wpList_load_big _ rfl 138 (.tmp 4) rfl w.heap.size 0 138 202 202 rfl (Xs.big HX11.out) (by decide) Tryz.underlying138 rfl info138 ?_); intro ds hds hda _; have HDS := Lib.hid hds; clear hds; have HDA := Lib.hid hda; clear hda)
    | ((with_reducible refine at_store 4 ?_); (with_reducible refine wpList_store_big _ rfl 138 (.tmp 4) (.tmp 69) rfl w.heap.size 0 138 202 rfl ds rfl (Xs.big HX11.out) (by rw [HDS.out]; decide) (by rw [HDS.out]; exact info138) HDA.out ?_); intro w12 hx12 hB12 _ _; have h12 := HX11.out.store hx12 hB12; clear hx12 hB12; have HX12 := Lib.hid h12; clear h12))
  exact bodyPost_big2 (fn := Tryz.f67) rfl rfl rfl (Xs.big HX12.out) Tryz.underlying138 rfl info138 (fun es h1 h2 _ => ⟨⟨es, rfl, h1, h2⟩, Xs.old HX12.out⟩)
end Go.Proofs.YtlmmdldjfpdcfaaGreatDoor

/-
  NewXof over fp128.
-/
namespace Go.Proofs.YtlmmdldjfpdcfaaGreatDoor
open Go.RowKit

set_option maxRecDepth 20000 in
set_option maxHeartbeats 1000000 in
theorem newXof128 {v : Value} {k : Int} {w : World} (l : List Nat) (hB : IsB w v l) (hnil : ∀ m c, v = .slice none m c → c = 0) (hl : l.length ≤ 65527) :
    Calls Tryz.prog 77 #[.int .u32 k, v] w fun e w' => (∃ cs : Array Value, e = .returned (.tuple #[.agg cs, .nilIface]) ∧ cs.size = 202 ∧ cs.all (·.oneCell') = true) ∧ Ext w w' No := by
  obtain ⟨hlt, a, c, rfl, hmc, hc, hcell⟩ := hB
  have hsrc : ∀ w', Ext w w' No → ∀ ad, a = some ad → ∀ j u, (u8s l)[j]? = some u → w'.cell? (ad.add j) = some u := by
    intro w' hx ad had j u hu
    obtain ⟨hj, rfl⟩ := u8s_get _ _ _ hu
    rcases hcell with h | ⟨b, o, h, hh⟩
    · omega
    · obtain rfl := Option.some.inj (had.symm.trans h)
      rw [add0]
      exact hx.cellNo (hh j hj)
  have hnn : a = none → l.length = 0 ∧ c = 0 := by
    rintro rfl
    refine ⟨?_, hnil _ _ rfl⟩
    rcases hcell with h | ⟨b, o, h, -⟩
    · exact h
    · simp at h
  obtain ⟨n, hn⟩ : ∃ n, n = l.length := ⟨_, rfl⟩
  rw [← hn] at hmc hl hnn ⊢
  have hul : (u8s l).length = n := by rw [u8s_len, hn]
  have HU := Lib.hid hul; clear hul
  have HN := Lib.hid hnn; clear hnn
  have HSR := Lib.hid hsrc; clear hsrc hcell
  clear hlt hn hnil
  obtain ⟨cap, hcap⟩ : ∃ cap, cap = n + 11 := ⟨_, rfl⟩
  have HC := Lib.hid hcap; clear hcap
  have hm := makeB (c := 2 + (8 + (n : Int)) + 1) (n := cap) (by have := HC.out; omega) (by have := HC.out; omega)
  have h0 : Xs 164 w cap ((w.alloc (.cells (Tryz.zeroCells164.setIfInBounds 1 (.slice (some ⟨w.heap.size + 1, 0, none⟩) 0 cap)) 164)).alloc (.cells (madeCells #[.int .u8 0] cap) 5)) := by
    refine ⟨(Big.new w _ (by rw [Array.size_setIfInBounds]; exact z164.1) (by
      have h := (Big.new (t := 164) w _ z164.1 z164.2).set 1 (v := .slice (some ⟨w.heap.size + 1, 0, none⟩) 0 cap) rfl
      obtain ⟨cur, hb, -, ha⟩ := h
      rw [blk_set (blk_new _ _)] at hb
      obtain rfl := (Obj.cells.inj (Option.some.inj hb)).1
      exact ha)).alloc _, ⟨madeCells #[.int .u8 0] cap, ?_, size_madeCells _ _⟩, ((Ext.refl w No).alloc _).alloc _⟩
    have h := blk_new (w.alloc (.cells (Tryz.zeroCells164.setIfInBounds 1 (.slice (some ⟨w.heap.size + 1, 0, none⟩) 0 cap)) 164)) (.cells (madeCells #[.int .u8 0] cap) 5)
    simpa using h
  have HX0 := Lib.hid h0; clear h0
  have hc10 : (10 : Int) ≤ (cap : Int) := by have := HC.out; omega
  have harr : ∀ (b c : Nat) (w : World), (Instr.arrayAt 342 (.slice (some ⟨b, 8, none⟩) 2 c)).run Tryz.prog w = .ok (.pointer (some ⟨b, 8, none⟩)) w := fun _ _ _ => by kernel_rfl
  go_enter Tryz.func77, Tryz.ntmps77
  go_wp2_with (first
    | (go_at_call 83; refine (appLE16 (n := 0) (Xs.row HX0.out) (by have := HC.out; omega)).mono ?_; rintro e w3 ⟨rfl, hx3, hR3⟩; have h3 := HX0.out.ext hx3 hR3; clear hx3 hR3; obtain ⟨u3, hc3, -⟩ := h3.1.cell 1 (by decide); have hf3 := h3.1.frz 1; have HX3 := Lib.hid h3; clear h3)
    | ((with_reducible refine at_dst 33 ?_); (with_reducible refine wpList_append_row _ rfl (.tmp 31) (.tmp 32) rfl (w.heap.size + 1) 2 cap rfl (Xs.row ((HX3.out.set 1 rfl).alloc _)) (some ⟨w3.heap.size, 0, none⟩) 1 1 rfl [_] rfl no_none (src_new2 _ _ _ (by simp)) (by simp [Value.oneCell']) (by have := HC.out; omega) ?_); intro w4 hx4 hR4; have h4 := ((HX3.out.set 1 rfl).alloc _).ext hx4 hR4; clear hx4 hR4; obtain ⟨u4, hc4, -⟩ := h4.1.cell 1 (by decide); have hf4 := h4.1.frz 1; have HX4 := Lib.hid h4; clear h4)
    | ((with_reducible refine at_dst 38 ?_); (with_reducible refine wpList_append_row _ rfl (.tmp 36) (.tmp 37) rfl (w.heap.size + 1) 3 cap rfl (Xs.row ((HX4.out.set 1 rfl).alloc _)) (some ⟨w4.heap.size, 0, none⟩) 1 1 rfl [_] rfl no_none (src_new2 _ _ _ (by simp)) (by simp [Value.oneCell']) (by have := HC.out; omega) ?_); intro w5 hx5 hR5; have h5 := ((HX4.out.set 1 rfl).alloc _).ext hx5 hR5; clear hx5 hR5; obtain ⟨u5, hc5, -⟩ := h5.1.cell 1 (by decide); have hf5 := h5.1.frz 1; have HX5 := Lib.hid h5; clear h5)
    | (go_at_call 84; refine (appBE32 (n := 4) (Xs.row (HX5.out.set 1 rfl)) (by have := HC.out; omega)).mono ?_; rintro e w6 ⟨rfl, hx6, hR6⟩; have h6 := (HX5.out.set 1 rfl).ext hx6 hR6; clear hx6 hR6; obtain ⟨u6, hc6, -⟩ := h6.1.cell 1 (by decide); have hf6 := h6.1.frz 1; have HX6 := Lib.hid h6; clear h6)
    | (go_at_call 85; refine (appBE16 (n := 8) (Xs.row (HX6.out.set 1 rfl)) (by have := HC.out; omega)).mono ?_; rintro e w7 ⟨rfl, hx7, hR7⟩; have h7 := (HX6.out.set 1 rfl).ext hx7 hR7; clear hx7 hR7; obtain ⟨u7, hc7, -⟩ := h7.1.cell 1 (by decide); have hf7 := h7.1.frz 1; have s7 := h7.set 1 (v := .slice (some ⟨w.heap.size + 1, 0, none⟩) 10 cap) rfl; have HQ7 := Lib.hid (HSR.out _ (Xs.old s7)); have HX7 := Lib.hid h7; clear h7 s7)
    | ((with_reducible refine at_dst 52 ?_); (with_reducible refine wpList_append_row _ rfl (.tmp 50) (.tmp 51) rfl (w.heap.size + 1) 10 cap rfl (Xs.row (HX7.out.set 1 rfl)) a n c rfl (u8s l) HU.out HN.out HQ7.out (u8s_one _) (by have := HC.out; omega) ?_); intro w8 hx8 hR8; have h8 := (HX7.out.set 1 rfl).ext hx8 hR8; clear hx8 hR8; obtain ⟨u8, hc8, -⟩ := h8.1.cell 1 (by decide); have hf8 := h8.1.frz 1; have HX8 := Lib.hid h8; clear h8)
    | ((with_reducible refine at_dst 57 ?_); (with_reducible refine wpList_append_row _ rfl (.tmp 55) (.tmp 56) rfl (w.heap.size + 1) (10 + n) cap rfl (Xs.row ((HX8.out.set 1 rfl).alloc _)) (some ⟨w8.heap.size, 0, none⟩) 1 1 rfl [_] rfl no_none (src_new2 _ _ _ (by simp)) (by simp [Value.oneCell']) (by have := HC.out; omega) ?_); intro w9 hx9 hR9; have h9 := ((HX8.out.set 1 rfl).alloc _).ext hx9 hR9; clear hx9 hR9; obtain ⟨u9, hc9, -⟩ := h9.1.cell 1 (by decide); have hf9 := h9.1.frz 1; obtain ⟨p9, hp9, -⟩ := h9.1.cell 0 (by decide); have hq9 := h9.1.frz 0; have HX9 := Lib.hid h9; clear h9)
    | (go_at_call 86; refine (newSponge _).mono ?_; rintro e w10 ⟨⟨cs, rfl, hcs, hca⟩, hx10⟩; have h10 := ((HX9.out.set 1 rfl).set 0 rfl).extNo hx10; clear hx10; have HX10 := Lib.hid h10; clear h10; have HCS := Lib.hid hcs; clear hcs; have HCA := Lib.hid hca; clear hca)
    | ((with_reducible refine at_store 68 ?_); (with_reducible refine wpList_store_big _ rfl 136 (.tmp 68) (.tmp 67) rfl w.heap.size 2 164 202 rfl cs rfl (Xs.big HX10.out) (by rw [HCS.out]; decide) (by rw [HCS.out]; exact info136) HCA.out ?_); intro w11 hx11 hB11 _ _; have h11 := HX10.out.store hx11 hB11; clear hx11 hB11; have HX11 := Lib.hid h11; clear h11)
    | ((with_reducible refine at_dst 69 ?_); (with_reducible refine wpList_load_big _ rfl 164 (.tmp 4) rfl w.heap.size 0 164 202 202 rfl (Xs.big HX11.out) (by decide) Tryz.underlying164 rfl info164 ?_); intro ds hds hda _; have HDS := Lib.hid hds; clear hds; have HDA := Lib.hid hda; clear hda)
    | ((with_reducible refine at_store 4 ?_); (with_reducible refine wpList_store_big _ rfl 164 (.tmp 4) (.tmp 69) rfl w.heap.size 0 164 202 rfl ds rfl (Xs.big HX11.out) (by rw [HDS.out]; decide) (by rw [HDS.out]; exact info164) HDA.out ?_); intro w12 hx12 hB12 _ _; have h12 := HX11.out.store hx12 hB12; clear hx12 hB12; have HX12 := Lib.hid h12; clear h12))
  exact bodyPost_big2 (fn := Tryz.f77) rfl rfl rfl (Xs.big HX12.out) Tryz.underlying164 rfl info164 (fun es h1 h2 _ => ⟨⟨es, rfl, h1, h2⟩, Xs.old HX12.out⟩)
end Go.Proofs.YtlmmdldjfpdcfaaGreatDoor

/-
  The proof systems' makers: count.
-/
namespace Go.Proofs.YtlmmdldjfpdcfaaGreatDoor
open Go.RowKit

theorem partAt0 {b o x : Nat} {w : World} {t : TypeId} {cs : Array Value} {fr : Nat × Nat} (hb : w.heap[b]? = some (.cells cs t fr)) (hs : (Tryz.prog.cellsOf t == 0) = false)
    (hx : byteOfCell Tryz.prog Tryz.prog.depth t (o % Tryz.prog.cellsOf t) = some x) : (partAt ⟨b, o, none⟩ 0 0).run Tryz.prog w = .ok ⟨b, o, none⟩ w := by
  have hs' : ¬ Tryz.prog.cellsOf t = 0 := by simpa using hs
  have h1 : (byteOf ⟨b, o, none⟩).run Tryz.prog w = .ok (o / Tryz.prog.cellsOf t * Tryz.prog.bytesOf t + x) w := by
    have hsh : w.shape? b = some (t, cs.size) := by simp [World.shape?, hb]
    simp [byteOf, noView, viewAt, hsh, hs', hx]
  simp [partAt, h1]
theorem partAtS {b o x n : Nat} {w : World} {t : TypeId} (hsh : w.shape? b = some (t, n)) (hs : (Tryz.prog.cellsOf t == 0) = false)
    (hx : byteOfCell Tryz.prog Tryz.prog.depth t (o % Tryz.prog.cellsOf t) = some x) : (partAt ⟨b, o, none⟩ 0 0).run Tryz.prog w = .ok ⟨b, o, none⟩ w := by
  have hs' : ¬ Tryz.prog.cellsOf t = 0 := by simpa using hs
  have h1 : (byteOf ⟨b, o, none⟩).run Tryz.prog w = .ok (o / Tryz.prog.cellsOf t * Tryz.prog.bytesOf t + x) w := by
    simp [byteOf, noView, viewAt, hsh, hs', hx]
  simp [partAt, h1]
theorem shape_of_blk {b n : Nat} {w : World} {t : TypeId} {cs : Array Value} {fr : Nat × Nat} (hb : w.heap[b]? = some (.cells cs t fr)) (hn : cs.size = n) : w.shape? b = some (t, n) := by
  simp [World.shape?, hb, hn]
theorem shape_setCell (w : World) (p : Addr) (v : Value) (b : Nat) : (w.setCell p v).shape? b = w.shape? b := by
  by_cases h : b = p.block
  · subst h
    simp only [World.shape?, World.setCell, Array.getElem?_modify, if_true]
    cases w.heap[p.block]? with
    | none => rfl
    | some o =>
      cases o <;> simp
      split <;> simp
  · have e := heap_setCell_other w p b v h
    simp only [World.shape?, e]
theorem partAt4 {b o x n : Nat} {w : World} {t : TypeId} (hsh : w.shape? b = some (t, n)) (hs : (Tryz.prog.cellsOf t == 0) = false)
    (hx : byteOfCell Tryz.prog Tryz.prog.depth t (o % Tryz.prog.cellsOf t) = some x) (p1 p2 p3 p4 : Addr) (v1 v2 v3 v4 : Value) :
    (partAt ⟨b, o, none⟩ 0 0).run Tryz.prog ((((w.setCell p1 v1).setCell p2 v2).setCell p3 v3).setCell p4 v4) = .ok ⟨b, o, none⟩ ((((w.setCell p1 v1).setCell p2 v2).setCell p3 v3).setCell p4 v4) :=
  partAtS (w := (((w.setCell p1 v1).setCell p2 v2).setCell p3 v3).setCell p4 v4) (by simp only [shape_setCell]; exact hsh) hs hx
theorem cells208 : (Tryz.prog.cellsOf 208 == 0) = false ∧ Tryz.prog.cellsOf 208 = 6 ∧ byteOfCell Tryz.prog Tryz.prog.depth 208 1 = some 8 := ⟨by kernel_rfl, by kernel_rfl, by kernel_rfl⟩
theorem flpCount (w : World) : Calls Tryz.prog 52 #[] w fun e w' => e = .returned (.pointer (some ⟨w.heap.size, 0, none⟩)) ∧
    ∃ f, w.alloc (.cells #[f, .int .u64 1, .int .u64 1, .int .u64 0, .int .u64 1, .int .u64 1] 208) = w' := by
  have hp : ∀ cs, (partAt ⟨w.heap.size, 1, none⟩ 0 0).run Tryz.prog (w.alloc (.cells cs 208)) = .ok ⟨w.heap.size, 1, none⟩ (w.alloc (.cells cs 208)) := fun cs => partAt0 (blk_new _ _) cells208.1 (by rw [cells208.2.1]; exact cells208.2.2)
  go_enter Tryz.func52, Tryz.ntmps52
  go_wp2
  go_ret
  exact ⟨rfl, _, rfl⟩
end Go.Proofs.YtlmmdldjfpdcfaaGreatDoor
