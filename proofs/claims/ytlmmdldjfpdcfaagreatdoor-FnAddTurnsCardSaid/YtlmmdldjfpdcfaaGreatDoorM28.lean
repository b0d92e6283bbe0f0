/-
  Params of each kind, handed on.
-/
import Derived.Test.YtlmmdldjfpdcfaaGreatDoorPrmA
import Derived.Test.YtlmmdldjfpdcfaaGreatDoorPrmB
import Derived.Test.YtlmmdldjfpdcfaaGreatDoorPrmC
import Derived.Test.YtlmmdldjfpdcfaaGreatDoorPrmD
import Derived.Test.YtlmmdldjfpdcfaaGreatDoorPrmE
import Derived.Test.YtlmmdldjfpdcfaaGreatDoorM14
import Derived.Test.YtlmmdldjfpdcfaaGreatDoorM01
import Derived.Test.YtlmmdldjfpdcfaaGreatDoorM09
namespace Go.Proofs.YtlmmdldjfpdcfaaGreatDoor
open Go.RowKit

theorem prmCount {kb out : Nat} {w : World} (hK : Kind 208 1 kb out w) (hD : Deb w) : Calls Tryz.prog 174 #[.pointer (some ⟨kb, 0, none⟩)] w fun e w' =>
    (∃ cs : Array Value, e = .returned (.agg cs) ∧ cs.size = 10 ∧ cs.all (·.oneCell') = true ∧ cs[2]? = some (.int .u64 (out : Nat))) ∧ Ext w w' No := by
  have K1 := prmCountA (w := (w.alloc (.cells #[.int .u64 0, .int .u64 0, .int .u64 0, .int .u64 0, .int .u64 0, .int .u64 0, .int .u64 0, .int .u64 0, .int .u64 0, .int .u8 0] 76))) (hK.extNo ((Ext.refl w No).alloc _)) (hD.extNo ((Ext.refl w No).alloc _))
  have lk : kb < w.heap.size := by obtain ⟨fb, hc, -⟩ := hK; exact World.block_lt_of_cell? _ _ hc
  have HK1 := Lib.hid K1; clear K1 hK hD
  go_enter Tryz.func174, Tryz.ntmps174
  go_wp2_with (first
    | (go_at_call 180; refine HK1.out.mono ?_; rintro e w1 ⟨⟨cs, rfl, hs, ha, h2⟩, hx1⟩; have HB1 := Lib.hid (⟨_, hx1.blkNo (blk_new _ _), rfl, all10⟩ : Big w.heap.size 76 10 w1); have HX1 := Lib.hid hx1; clear hx1; have HS := Lib.hid hs; clear hs; have HA := Lib.hid ha; clear ha; have H2 := Lib.hid h2; clear h2)
    | ((with_reducible refine at_store 2 ?_); (refine wpList_store_big _ rfl 76 (.tmp 2) (.tmp 6) rfl w.heap.size 0 76 10 rfl cs rfl HB1.out (by rw [HS.out]; decide) (by rw [HS.out]; exact info76) HA.out ?_); intro w2 hx2 hB2 hk2 _; have h20 := hk2 2 (by rw [HS.out]; decide); clear hk2; have HX2 := Lib.hid hx2; clear hx2; have HB2 := Lib.hid hB2; clear hB2; have H20 := Lib.hid h20; clear h20))
  refine bodyPost_big (fn := Tryz.f174) rfl rfl rfl HB2.out Tryz.underlying76 rfl info76 (fun ds k1 k2 k3 => ⟨⟨ds, rfl, k1, k2, (k3 2 (by decide)).trans (H20.out.trans H2.out)⟩, ?_⟩)
  exact (((Ext.refl w No).alloc _).transNo HX1.out).trans HX2.out (fun i hi h => by subst h; exact absurd hi (Nat.lt_irrefl _))

theorem prmSum {kb out : Nat} {w : World} (hK : Kind 215 1 kb out w) (hD : Deb w) : Calls Tryz.prog 185 #[.pointer (some ⟨kb, 0, none⟩)] w fun e w' =>
    (∃ cs : Array Value, e = .returned (.agg cs) ∧ cs.size = 10 ∧ cs.all (·.oneCell') = true ∧ cs[2]? = some (.int .u64 (out : Nat))) ∧ Ext w w' No := by
  have K1 := prmSumA (w := (w.alloc (.cells #[.int .u64 0, .int .u64 0, .int .u64 0, .int .u64 0, .int .u64 0, .int .u64 0, .int .u64 0, .int .u64 0, .int .u64 0, .int .u8 0] 76))) (hK.extNo ((Ext.refl w No).alloc _)) (hD.extNo ((Ext.refl w No).alloc _))
  have lk : kb < w.heap.size := by obtain ⟨fb, hc, -⟩ := hK; exact World.block_lt_of_cell? _ _ hc
  have HK1 := Lib.hid K1; clear K1 hK hD
  go_enter Tryz.func185, Tryz.ntmps185
  go_wp2_with (first
    | (go_at_call 191; refine HK1.out.mono ?_; rintro e w1 ⟨⟨cs, rfl, hs, ha, h2⟩, hx1⟩; have HB1 := Lib.hid (⟨_, hx1.blkNo (blk_new _ _), rfl, all10⟩ : Big w.heap.size 76 10 w1); have HX1 := Lib.hid hx1; clear hx1; have HS := Lib.hid hs; clear hs; have HA := Lib.hid ha; clear ha; have H2 := Lib.hid h2; clear h2)
    | ((with_reducible refine at_store 2 ?_); (refine wpList_store_big _ rfl 76 (.tmp 2) (.tmp 6) rfl w.heap.size 0 76 10 rfl cs rfl HB1.out (by rw [HS.out]; decide) (by rw [HS.out]; exact info76) HA.out ?_); intro w2 hx2 hB2 hk2 _; have h20 := hk2 2 (by rw [HS.out]; decide); clear hk2; have HX2 := Lib.hid hx2; clear hx2; have HB2 := Lib.hid hB2; clear hB2; have H20 := Lib.hid h20; clear h20))
  refine bodyPost_big (fn := Tryz.f185) rfl rfl rfl HB2.out Tryz.underlying76 rfl info76 (fun ds k1 k2 k3 => ⟨⟨ds, rfl, k1, k2, (k3 2 (by decide)).trans (H20.out.trans H2.out)⟩, ?_⟩)
  exact (((Ext.refl w No).alloc _).transNo HX1.out).trans HX2.out (fun i hi h => by subst h; exact absurd hi (Nat.lt_irrefl _))

theorem prmSv {kb out : Nat} {w : World} (hK : Kind 238 2 kb out w) (hD : Deb w) : Calls Tryz.prog 205 #[.pointer (some ⟨kb, 0, none⟩)] w fun e w' =>
    (∃ cs : Array Value, e = .returned (.agg cs) ∧ cs.size = 10 ∧ cs.all (·.oneCell') = true ∧ cs[2]? = some (.int .u64 (out : Nat))) ∧ Ext w w' No := by
  have K1 := prmSvA (w := (w.alloc (.cells #[.int .u64 0, .int .u64 0, .int .u64 0, .int .u64 0, .int .u64 0, .int .u64 0, .int .u64 0, .int .u64 0, .int .u64 0, .int .u8 0] 76))) (hK.extNo ((Ext.refl w No).alloc _)) (hD.extNo ((Ext.refl w No).alloc _))
  have lk : kb < w.heap.size := by obtain ⟨fb, hc, -⟩ := hK; exact World.block_lt_of_cell? _ _ hc
  have HK1 := Lib.hid K1; clear K1 hK hD
  go_enter Tryz.func205, Tryz.ntmps205
  go_wp2_with (first
    | (go_at_call 211; refine HK1.out.mono ?_; rintro e w1 ⟨⟨cs, rfl, hs, ha, h2⟩, hx1⟩; have HB1 := Lib.hid (⟨_, hx1.blkNo (blk_new _ _), rfl, all10⟩ : Big w.heap.size 76 10 w1); have HX1 := Lib.hid hx1; clear hx1; have HS := Lib.hid hs; clear hs; have HA := Lib.hid ha; clear ha; have H2 := Lib.hid h2; clear h2)
    | ((with_reducible refine at_store 2 ?_); (refine wpList_store_big _ rfl 76 (.tmp 2) (.tmp 6) rfl w.heap.size 0 76 10 rfl cs rfl HB1.out (by rw [HS.out]; decide) (by rw [HS.out]; exact info76) HA.out ?_); intro w2 hx2 hB2 hk2 _; have h20 := hk2 2 (by rw [HS.out]; decide); clear hk2; have HX2 := Lib.hid hx2; clear hx2; have HB2 := Lib.hid hB2; clear hB2; have H20 := Lib.hid h20; clear h20))
  refine bodyPost_big (fn := Tryz.f205) rfl rfl rfl HB2.out Tryz.underlying76 rfl info76 (fun ds k1 k2 k3 => ⟨⟨ds, rfl, k1, k2, (k3 2 (by decide)).trans (H20.out.trans H2.out)⟩, ?_⟩)
  exact (((Ext.refl w No).alloc _).transNo HX1.out).trans HX2.out (fun i hi h => by subst h; exact absurd hi (Nat.lt_irrefl _))

theorem prmHist {kb out : Nat} {w : World} (hK : Kind 242 2 kb out w) (hD : Deb w) : Calls Tryz.prog 215 #[.pointer (some ⟨kb, 0, none⟩)] w fun e w' =>
    (∃ cs : Array Value, e = .returned (.agg cs) ∧ cs.size = 10 ∧ cs.all (·.oneCell') = true ∧ cs[2]? = some (.int .u64 (out : Nat))) ∧ Ext w w' No := by
  have K1 := prmHistA (w := (w.alloc (.cells #[.int .u64 0, .int .u64 0, .int .u64 0, .int .u64 0, .int .u64 0, .int .u64 0, .int .u64 0, .int .u64 0, .int .u64 0, .int .u8 0] 76))) (hK.extNo ((Ext.refl w No).alloc _)) (hD.extNo ((Ext.refl w No).alloc _))
  have lk : kb < w.heap.size := by obtain ⟨fb, hc, -⟩ := hK; exact World.block_lt_of_cell? _ _ hc
  have HK1 := Lib.hid K1; clear K1 hK hD
  go_enter Tryz.func215, Tryz.ntmps215
  go_wp2_with (first
    | (go_at_call 221; refine HK1.out.mono ?_; rintro e w1 ⟨⟨cs, rfl, hs, ha, h2⟩, hx1⟩; have HB1 := Lib.hid (⟨_, hx1.blkNo (blk_new _ _), rfl, all10⟩ : Big w.heap.size 76 10 w1); have HX1 := Lib.hid hx1; clear hx1; have HS := Lib.hid hs; clear hs; have HA := Lib.hid ha; clear ha; have H2 := Lib.hid h2; clear h2)
    | ((with_reducible refine at_store 2 ?_); (refine wpList_store_big _ rfl 76 (.tmp 2) (.tmp 6) rfl w.heap.size 0 76 10 rfl cs rfl HB1.out (by rw [HS.out]; decide) (by rw [HS.out]; exact info76) HA.out ?_); intro w2 hx2 hB2 hk2 _; have h20 := hk2 2 (by rw [HS.out]; decide); clear hk2; have HX2 := Lib.hid hx2; clear hx2; have HB2 := Lib.hid hB2; clear hB2; have H20 := Lib.hid h20; clear h20))
  refine bodyPost_big (fn := Tryz.f215) rfl rfl rfl HB2.out Tryz.underlying76 rfl info76 (fun ds k1 k2 k3 => ⟨⟨ds, rfl, k1, k2, (k3 2 (by decide)).trans (H20.out.trans H2.out)⟩, ?_⟩)
  exact (((Ext.refl w No).alloc _).transNo HX1.out).trans HX2.out (fun i hi h => by subst h; exact absurd hi (Nat.lt_irrefl _))

theorem prmMhcv {kb out : Nat} {w : World} (hK : Kind 246 2 kb out w) (hD : Deb w) : Calls Tryz.prog 225 #[.pointer (some ⟨kb, 0, none⟩)] w fun e w' =>
    (∃ cs : Array Value, e = .returned (.agg cs) ∧ cs.size = 10 ∧ cs.all (·.oneCell') = true ∧ cs[2]? = some (.int .u64 (out : Nat))) ∧ Ext w w' No := by
  have K1 := prmMhcvA (w := (w.alloc (.cells #[.int .u64 0, .int .u64 0, .int .u64 0, .int .u64 0, .int .u64 0, .int .u64 0, .int .u64 0, .int .u64 0, .int .u64 0, .int .u8 0] 76))) (hK.extNo ((Ext.refl w No).alloc _)) (hD.extNo ((Ext.refl w No).alloc _))
  have lk : kb < w.heap.size := by obtain ⟨fb, hc, -⟩ := hK; exact World.block_lt_of_cell? _ _ hc
  have HK1 := Lib.hid K1; clear K1 hK hD
  go_enter Tryz.func225, Tryz.ntmps225
  go_wp2_with (first
    | (go_at_call 231; refine HK1.out.mono ?_; rintro e w1 ⟨⟨cs, rfl, hs, ha, h2⟩, hx1⟩; have HB1 := Lib.hid (⟨_, hx1.blkNo (blk_new _ _), rfl, all10⟩ : Big w.heap.size 76 10 w1); have HX1 := Lib.hid hx1; clear hx1; have HS := Lib.hid hs; clear hs; have HA := Lib.hid ha; clear ha; have H2 := Lib.hid h2; clear h2)
    | ((with_reducible refine at_store 2 ?_); (refine wpList_store_big _ rfl 76 (.tmp 2) (.tmp 6) rfl w.heap.size 0 76 10 rfl cs rfl HB1.out (by rw [HS.out]; decide) (by rw [HS.out]; exact info76) HA.out ?_); intro w2 hx2 hB2 hk2 _; have h20 := hk2 2 (by rw [HS.out]; decide); clear hk2; have HX2 := Lib.hid hx2; clear hx2; have HB2 := Lib.hid hB2; clear hB2; have H20 := Lib.hid h20; clear h20))
  refine bodyPost_big (fn := Tryz.f225) rfl rfl rfl HB2.out Tryz.underlying76 rfl info76 (fun ds k1 k2 k3 => ⟨⟨ds, rfl, k1, k2, (k3 2 (by decide)).trans (H20.out.trans H2.out)⟩, ?_⟩)
  exact (((Ext.refl w No).alloc _).transNo HX1.out).trans HX2.out (fun i hi h => by subst h; exact absurd hi (Nat.lt_irrefl _))
end Go.Proofs.YtlmmdldjfpdcfaaGreatDoor

/-
  Shares as lists: what is read, what is summed.
-/
namespace Go.Proofs.YtlmmdldjfpdcfaaGreatDoor
open Go.RowKit

/-- A slice of shares that reads as ls. -/
def IsBs (w : World) (v : Value) (ls : List (List Nat)) : Prop :=
  ∃ a c, v = .slice a ls.length c ∧ (ls.length = 0 ∨ ∃ b o, a = some ⟨b, o, none⟩ ∧ ∀ i, i < ls.length → ∃ u, w.cell? ⟨b, o + i, none⟩ = some u ∧ IsB w u (ls.getD i []))
theorem IsBs.ext {w w' : World} {v : Value} {ls : List (List Nat)} (h : IsBs w v ls) (hx : Ext w w' No) : IsBs w' v ls := by
  obtain ⟨a, c, rfl, h⟩ := h
  refine ⟨a, c, rfl, ?_⟩
  rcases h with h | ⟨b, o, ha, hh⟩
  · exact .inl h
  · refine .inr ⟨b, o, ha, fun i hi => ?_⟩
    obtain ⟨u, hu, hB⟩ := hh i hi
    exact ⟨u, hx.cellNo hu, hB.ext hx⟩

theorem take_snocL (l : List (List Nat)) (k : Nat) (h : k < l.length) : l.take (k + 1) = l.take k ++ [l.getD k []] := by
  rw [List.take_succ_eq_append_getElem h]; simp [List.getD, h]
/-- The sum of the shares' numbers, in the form in which f leaves them. -/
def sumN (p sz n : Nat) (f : Nat → Nat) (ls : List (List Nat)) : List Nat := ls.foldl (fun acc l => addN p acc ((chunks sz n l).map f)) (List.replicate n 0)
theorem sumN_snoc (p sz n : Nat) (f : Nat → Nat) (ls : List (List Nat)) (l : List Nat) : sumN p sz n f (ls ++ [l]) = addN p (sumN p sz n f ls) ((chunks sz n l).map f) := by
  simp [sumN]
theorem foldN_len (p sz n : Nat) (f : Nat → Nat) (ls : List (List Nat)) (acc : List Nat) (h : acc.length = n) : (ls.foldl (fun acc l => addN p acc ((chunks sz n l).map f)) acc).length = n := by
  induction ls generalizing acc with
  | nil => exact h
  | cons l ls ih => exact ih _ (by rw [addN_len _ _ _ (by rw [h, List.length_map, chunks_len]), h])
theorem sumN_len (p sz n : Nat) (f : Nat → Nat) (ls : List (List Nat)) : (sumN p sz n f ls).length = n := foldN_len p sz n f ls _ (by simp)
theorem foldN_lt (p sz n : Nat) (f : Nat → Nat) (hp : 0 < p) (ls : List (List Nat)) (acc : List Nat) (h : acc.length = n) (hl : ∀ i, i < n → acc.getD i 0 < p) :
    ∀ i, i < n → (ls.foldl (fun acc l => addN p acc ((chunks sz n l).map f)) acc).getD i 0 < p := by
  induction ls generalizing acc with
  | nil => exact hl
  | cons l ls ih =>
    refine ih _ (by rw [addN_len _ _ _ (by rw [h, List.length_map, chunks_len]), h]) (fun i hi => ?_)
    rw [addN_get _ _ _ _ (by rw [h, List.length_map, chunks_len]) (by rw [h]; exact hi)]
    exact Nat.mod_lt _ hp
theorem sumN_lt (p sz n : Nat) (f : Nat → Nat) (hp : 0 < p) (ls : List (List Nat)) (i : Nat) (hi : i < n) : (sumN p sz n f ls).getD i 0 < p :=
  foldN_lt p sz n f hp ls _ (by simp) (fun i hi => by simp [List.getD, hi, hp]) i hi
theorem vecC_zeros64 (n : Nat) : vecC enc64 (List.replicate n 0) = List.replicate n (.int .u64 0) := by
  rw [vecC64_map]; simp
theorem vecC_zeros128 (n : Nat) : vecC enc128 (List.replicate n 0) = List.replicate (n * 2) (.int .u64 0) := by
  induction n with
  | zero => rfl
  | succ n ih => rw [List.replicate_succ, show vecC enc128 (0 :: List.replicate n 0) = enc128 0 ++ vecC enc128 (List.replicate n 0) from rfl, ih, Nat.add_mul, Nat.one_mul, List.replicate_succ, List.replicate_succ]; rfl
theorem zeros64 (n : Nat) : madeCells #[.int .u64 0] n = (vecC enc64 (List.replicate n 0)).toArray := by
  rw [vecC_zeros64]
  apply Array.ext
  · simp [madeCells]
  · intro i h1 h2
    simp [madeCells, Nat.mod_one]
theorem zeros128 (n : Nat) : madeCells #[.int .u64 0, .int .u64 0] (n * 2) = (vecC enc128 (List.replicate n 0)).toArray := by
  rw [vecC_zeros128]
  apply Array.ext
  · simp [madeCells]
  · intro i h1 h2
    have h : i % 2 = 0 ∨ i % 2 = 1 := by omega
    rcases h with h | h <;> simp [madeCells, h]
theorem mkNew64 {wr w5 : World} {n : Nat} (h : ((wr.alloc (.cells #[.slice none 0 0] 82)).setCell ⟨wr.heap.size, 0, none⟩ (.slice (some ⟨(wr.alloc (.cells #[.slice none 0 0] 82)).heap.size, 0, none⟩) n n)).alloc (.cells (madeCells #[.int .u64 0] n) 44) = w5) :
    w5.cell? ⟨wr.heap.size, 0, none⟩ = some (.slice (some ⟨wr.heap.size + 1, 0, none⟩) n n) ∧ w5.heap[wr.heap.size + 1]? = some (.cells (madeCells #[.int .u64 0] n) 44 (0, 0)) ∧ Ext wr w5 No := by
  subst h
  have e : (wr.alloc (.cells #[.slice none 0 0] 82)).heap.size = wr.heap.size + 1 := by simp
  rw [e]
  refine ⟨cell_alloc (World.cell?_setCell_same _ _ _ (blk_cell (blk_new _ _) 0)) _, ?_, (((Ext.refl wr No).alloc _).set (.inl (Nat.le_refl _)) _).alloc _⟩
  have h2 := blk_new ((wr.alloc (.cells #[.slice none 0 0] 82)).setCell ⟨wr.heap.size, 0, none⟩ (.slice (some ⟨wr.heap.size + 1, 0, none⟩) n n)) (.cells (madeCells #[.int .u64 0] n) 44)
  simpa using h2
theorem mkNew128 {wr w5 : World} {n : Nat} (h : ((wr.alloc (.cells #[.slice none 0 0] 103)).setCell ⟨wr.heap.size, 0, none⟩ (.slice (some ⟨(wr.alloc (.cells #[.slice none 0 0] 103)).heap.size, 0, none⟩) n n)).alloc (.cells (madeCells #[.int .u64 0, .int .u64 0] (n * 2)) 52) = w5) :
    w5.cell? ⟨wr.heap.size, 0, none⟩ = some (.slice (some ⟨wr.heap.size + 1, 0, none⟩) n n) ∧ w5.heap[wr.heap.size + 1]? = some (.cells (madeCells #[.int .u64 0, .int .u64 0] (n * 2)) 52 (0, 0)) ∧ Ext wr w5 No := by
  subst h
  have e : (wr.alloc (.cells #[.slice none 0 0] 103)).heap.size = wr.heap.size + 1 := by simp
  rw [e]
  refine ⟨cell_alloc (World.cell?_setCell_same _ _ _ (blk_cell (blk_new _ _) 0)) _, ?_, (((Ext.refl wr No).alloc _).set (.inl (Nat.le_refl _)) _).alloc _⟩
  have h2 := blk_new ((wr.alloc (.cells #[.slice none 0 0] 103)).setCell ⟨wr.heap.size, 0, none⟩ (.slice (some ⟨wr.heap.size + 1, 0, none⟩) n n)) (.cells (madeCells #[.int .u64 0, .int .u64 0] (n * 2)) 52)
  simpa using h2
theorem mapLt64 (sz n : Nat) (l : List Nat) (i : Nat) (hi : i < n) : ((chunks sz n l).map tom64).getD i 0 < P64 := by
  rw [List.getD_eq_getElem?_getD, List.getElem?_map, List.getElem?_eq_getElem (by rw [chunks_len]; exact hi), Option.map_some, Option.getD_some]
  exact tom64_lt _
theorem mapLt128 (sz n : Nat) (l : List Nat) (i : Nat) (hi : i < n) : ((chunks sz n l).map tom128).getD i 0 < P128 := by
  rw [List.getD_eq_getElem?_getD, List.getElem?_map, List.getElem?_eq_getElem (by rw [chunks_len]; exact hi), Option.map_some, Option.getD_some]
  exact tom128_lt _
end Go.Proofs.YtlmmdldjfpdcfaaGreatDoor

/-
  Which function a call through the kinds' interfaces runs.
-/
namespace Go.Proofs.YtlmmdldjfpdcfaaGreatDoor
open Go.RowKit

@[go_sem] theorem ahead66Params (a : Addr) (w : World) : (nilAhead 486 66 (.pointer (some a)) "Params").run Tryz.prog w = .ok (some false) w := by kernel_rfl
@[go_sem] theorem meth66Params (a : Addr) (w : World) : (method 486 66 (.pointer (some a)) "Params").run Tryz.prog w = .ok (174, .pointer (some a)) w := by kernel_rfl
@[go_sem] theorem ahead66AggregateInit (a : Addr) (w : World) : (nilAhead 486 66 (.pointer (some a)) "AggregateInit").run Tryz.prog w = .ok (some false) w := by kernel_rfl
@[go_sem] theorem meth66AggregateInit (a : Addr) (w : World) : (method 486 66 (.pointer (some a)) "AggregateInit").run Tryz.prog w = .ok (172, .pointer (some a)) w := by kernel_rfl
@[go_sem] theorem ahead66AggregateUpdate (a : Addr) (w : World) : (nilAhead 486 66 (.pointer (some a)) "AggregateUpdate").run Tryz.prog w = .ok (some false) w := by kernel_rfl
@[go_sem] theorem meth66AggregateUpdate (a : Addr) (w : World) : (method 486 66 (.pointer (some a)) "AggregateUpdate").run Tryz.prog w = .ok (173, .pointer (some a)) w := by kernel_rfl
@[go_sem] theorem ahead71Params (a : Addr) (w : World) : (nilAhead 486 71 (.pointer (some a)) "Params").run Tryz.prog w = .ok (some false) w := by kernel_rfl
@[go_sem] theorem meth71Params (a : Addr) (w : World) : (method 486 71 (.pointer (some a)) "Params").run Tryz.prog w = .ok (185, .pointer (some a)) w := by kernel_rfl
@[go_sem] theorem ahead71AggregateInit (a : Addr) (w : World) : (nilAhead 486 71 (.pointer (some a)) "AggregateInit").run Tryz.prog w = .ok (some false) w := by kernel_rfl
@[go_sem] theorem meth71AggregateInit (a : Addr) (w : World) : (method 486 71 (.pointer (some a)) "AggregateInit").run Tryz.prog w = .ok (183, .pointer (some a)) w := by kernel_rfl
@[go_sem] theorem ahead71AggregateUpdate (a : Addr) (w : World) : (nilAhead 486 71 (.pointer (some a)) "AggregateUpdate").run Tryz.prog w = .ok (some false) w := by kernel_rfl
@[go_sem] theorem meth71AggregateUpdate (a : Addr) (w : World) : (method 486 71 (.pointer (some a)) "AggregateUpdate").run Tryz.prog w = .ok (184, .pointer (some a)) w := by kernel_rfl
@[go_sem] theorem ahead90Params (a : Addr) (w : World) : (nilAhead 486 90 (.pointer (some a)) "Params").run Tryz.prog w = .ok (some false) w := by kernel_rfl
@[go_sem] theorem meth90Params (a : Addr) (w : World) : (method 486 90 (.pointer (some a)) "Params").run Tryz.prog w = .ok (205, .pointer (some a)) w := by kernel_rfl
@[go_sem] theorem ahead90AggregateInit (a : Addr) (w : World) : (nilAhead 486 90 (.pointer (some a)) "AggregateInit").run Tryz.prog w = .ok (some false) w := by kernel_rfl
@[go_sem] theorem meth90AggregateInit (a : Addr) (w : World) : (method 486 90 (.pointer (some a)) "AggregateInit").run Tryz.prog w = .ok (203, .pointer (some a)) w := by kernel_rfl
@[go_sem] theorem ahead90AggregateUpdate (a : Addr) (w : World) : (nilAhead 486 90 (.pointer (some a)) "AggregateUpdate").run Tryz.prog w = .ok (some false) w := by kernel_rfl
@[go_sem] theorem meth90AggregateUpdate (a : Addr) (w : World) : (method 486 90 (.pointer (some a)) "AggregateUpdate").run Tryz.prog w = .ok (204, .pointer (some a)) w := by kernel_rfl
@[go_sem] theorem ahead93Params (a : Addr) (w : World) : (nilAhead 486 93 (.pointer (some a)) "Params").run Tryz.prog w = .ok (some false) w := by kernel_rfl
@[go_sem] theorem meth93Params (a : Addr) (w : World) : (method 486 93 (.pointer (some a)) "Params").run Tryz.prog w = .ok (215, .pointer (some a)) w := by kernel_rfl
@[go_sem] theorem ahead93AggregateInit (a : Addr) (w : World) : (nilAhead 486 93 (.pointer (some a)) "AggregateInit").run Tryz.prog w = .ok (some false) w := by kernel_rfl
@[go_sem] theorem meth93AggregateInit (a : Addr) (w : World) : (method 486 93 (.pointer (some a)) "AggregateInit").run Tryz.prog w = .ok (213, .pointer (some a)) w := by kernel_rfl
@[go_sem] theorem ahead93AggregateUpdate (a : Addr) (w : World) : (nilAhead 486 93 (.pointer (some a)) "AggregateUpdate").run Tryz.prog w = .ok (some false) w := by kernel_rfl
@[go_sem] theorem meth93AggregateUpdate (a : Addr) (w : World) : (method 486 93 (.pointer (some a)) "AggregateUpdate").run Tryz.prog w = .ok (214, .pointer (some a)) w := by kernel_rfl
@[go_sem] theorem ahead96Params (a : Addr) (w : World) : (nilAhead 486 96 (.pointer (some a)) "Params").run Tryz.prog w = .ok (some false) w := by kernel_rfl
@[go_sem] theorem meth96Params (a : Addr) (w : World) : (method 486 96 (.pointer (some a)) "Params").run Tryz.prog w = .ok (225, .pointer (some a)) w := by kernel_rfl
@[go_sem] theorem ahead96AggregateInit (a : Addr) (w : World) : (nilAhead 486 96 (.pointer (some a)) "AggregateInit").run Tryz.prog w = .ok (some false) w := by kernel_rfl
@[go_sem] theorem meth96AggregateInit (a : Addr) (w : World) : (method 486 96 (.pointer (some a)) "AggregateInit").run Tryz.prog w = .ok (223, .pointer (some a)) w := by kernel_rfl
@[go_sem] theorem ahead96AggregateUpdate (a : Addr) (w : World) : (nilAhead 486 96 (.pointer (some a)) "AggregateUpdate").run Tryz.prog w = .ok (some false) w := by kernel_rfl
@[go_sem] theorem meth96AggregateUpdate (a : Addr) (w : World) : (method 486 96 (.pointer (some a)) "AggregateUpdate").run Tryz.prog w = .ok (224, .pointer (some a)) w := by kernel_rfl
end Go.Proofs.YtlmmdldjfpdcfaaGreatDoor

/-
  Bytes appended to an empty slice: a new row.
-/
namespace Go.Proofs.YtlmmdldjfpdcfaaGreatDoor
open Go.RowKit

theorem wpList_append_empty {ops : Array Oper} {rest : List Oper} {o : Oper} {a : Act} {Q : Exit → Act → World → Prop} (w : World)
    (hg : o.guard = none) (s x : Operand) (hop : o.op = Op.call { callee := Callee.builtin Builtin.append, args := #[s, x], argTypes := #[23, 23] })
    (b : Addr) (hs : a.eval s = .slice (some b) 0 0) (ad : Addr) (n c : Nat) (hx : a.eval x = .slice (some ad) n c) (l : List Nat) (hl : l.length = n) (h0 : 0 < n) (hn : n ≤ 100000)
    (hnews : ∀ i, i < n → w.cell? (ad.add i) = some (.int .u8 (l.getD i 0 : Nat)))
    (hK : ∀ cap w', Ext w w' No → (∀ i, i < n → w'.cell? ⟨w.heap.size, i, none⟩ = some (.int .u8 (l.getD i 0 : Nat))) → wpList Tryz.prog ops Q rest (a.put o.dst (.slice (some ⟨w.heap.size, 0, none⟩) n cap)) w') :
    wpList Tryz.prog ops Q (o :: rest) a w := by
  obtain ⟨i, hi, hz, hs1, hb1⟩ := of_info info5
  have hrun := run_append_grow (P := Tryz.prog) w 23 o.type 5 i _ Tryz.underlying23 hi hz b 0 0 [] (by simp) (by simp) ad n c (u8s l) (by rw [u8s_len, hs1, hl, Nat.mul_one])
    (fun j u hu => by obtain ⟨hj, rfl⟩ := u8s_get _ _ _ hu; exact hnews j (by omega)) (by omega) (by omega) (by rw [hb1]; simp only [Builtin.nextslicecap]; simp; split <;> omega)
  refine wpList_plain hg fun K hK' => ?_
  unfold Oper.wp
  simp [execOp, hop, resolve, invoke, builtin, hs, hx, hrun, Result.andThen]
  refine hK' _ _ ?_
  have hfin := hK (grownCap w n 0 5) (w.drew.alloc (.cells ((u8s l).toArray ++ Builtin.zeroCells (Value.cells (.int .u8 0)) (grownCap w n 0 5 - n)) 5)) (((Ext.refl w No).drew).alloc _) (fun j hj => by
    have h := blk_cell (blk_new w.drew (.cells ((u8s l).toArray ++ Builtin.zeroCells (Value.cells (.int .u8 0)) (grownCap w n 0 5 - n)) 5)) j
    refine h.trans ?_
    rw [Array.getElem?_append_left (by simp [u8s_len, hl, hj])]
    exact u8s_cell l j (by omega))
  simpa using hfin
theorem row_bytes {w : World} {base g n cap : Nat} {l : List Nat} (h : w.ownsRow base 5 1 (.slice (some ⟨g, 0, none⟩) n cap) n (u8s l)) (hl : l.length = n) (o : Obj) :
    ∀ i, i < n → (w.alloc o).cell? ((⟨g, 0, none⟩ : Addr).add i) = some (.int .u8 (l.getD i 0 : Nat)) := by
  intro i hi
  rw [add0, Nat.zero_add]
  refine cell_alloc ?_ o
  rw [h.cellAt i (by omega)]
  simp [u8s, List.getD, hl, hi]
end Go.Proofs.YtlmmdldjfpdcfaaGreatDoor
