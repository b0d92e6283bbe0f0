/-
  spec.Add over each field, at the parameters of a kind.
-/
import Derived.Test.YtlmmdldjfpdcfaaGreatDoorSpecJ
import Derived.Test.YtlmmdldjfpdcfaaGreatDoorM30
import Derived.Test.YtlmmdldjfpdcfaaGreatDoorM03
import Derived.Test.YtlmmdldjfpdcfaaGreatDoorM28
namespace Go.Proofs.YtlmmdldjfpdcfaaGreatDoor
open Go.RowKit

theorem kind_true {k s n b c m L C : Nat} {a : Option Addr} (hk : kindI k s n b c m L) (w : World) : Calls Tryz.prog 9 #[parV k s n b c m (.slice a L C)] w fun e w' => e = .returned (.bool true) ∧ Ext w w' No := by
  refine (isKind (k := k) (s := s) (n := n) (b := b) (c := c) (m := m) (a := a) (L := L) (C := C) w).mono ?_
  rintro e w' ⟨⟨r, rfl, hr⟩, hx⟩
  exact ⟨by rw [hr.2 hk], hx⟩
theorem specAdd64 {k s n b c m L C : Nat} {a : Option Addr} {u : Value} {ls : List (List Nat)} {w : World} (hk : kindI k s n b c m L) (hn : n ≤ 16) (hb : b ≤ 80) (hc : c ≤ 16) (hm : m < 18446744073709551616) (h12 : k = 1 ∨ (k = 2 ∧ m < 9223372036854775808))
    (hS : IsBs w u ls) (hN : ls.length ≤ 300) : Calls Tryz.prog 11 #[parV k s n b c m (.slice a L C), u] w (Added w 8 P64 1 id (bytesL 8) ls) :=
  specAddG (by decide) (by decide) (by decide) (by decide) (kind_true hk) (circuit64 hn hb hc hm h12) (fun _ _ _ hB => specRead8 hB (by decide) (by decide)) (fun _ _ _ _ _ hl hv => specWritten8 hl (by decide) hv) hS hN
theorem specAdd128 {k s n b c m L C : Nat} {a : Option Addr} {u : Value} {ls : List (List Nat)} {w : World} (hk : kindI k s n b c m L) (hn0 : 0 < n) (hn : n ≤ 16) (hb : b ≤ 80) (hc0 : 0 < c) (hc : c ≤ 16) (hm : m < 18446744073709551616) (h345 : k = 3 ∨ k = 4 ∨ k = 5)
    (hS : IsBs w u ls) (hN : ls.length ≤ 300) : Calls Tryz.prog 11 #[parV k s n b c m (.slice a L C), u] w (Added w 16 P128 n id (bytesL 16) ls) :=
  specAddG (by decide) (by decide) hn0 hn (kind_true hk) (circuit128 hn hb hc hm h345 hc0) (fun _ _ _ hB => specRead16 hB hn0 hn) (fun _ _ _ _ _ hl hv => specWritten16 hl hn hv) hS hN
end Go.Proofs.YtlmmdldjfpdcfaaGreatDoor

/-
  The plain law of the sums: the code's form brought back gives the sum of the numbers read, and the order of the shares does not matter.
-/
namespace Go.Proofs.YtlmmdldjfpdcfaaGreatDoor

theorem map_addN (p : Nat) (f : Nat → Nat) (hf : ∀ a b, f ((a + b) % p) = (f a + f b) % p) (a b : List Nat) : (addN p a b).map f = addN p (a.map f) (b.map f) := by
  induction a generalizing b with
  | nil => simp [addN]
  | cons x a ih =>
    cases b with
    | nil => simp [addN]
    | cons y b =>
      have h := ih b
      unfold addN at h ⊢
      simp only [List.zipWith_cons_cons, List.map_cons, hf, h]
theorem fold_val (p sz n : Nat) (tom val : Nat → Nat) (hadd : ∀ a b, val ((a + b) % p) = (val a + val b) % p) (ht : ∀ v, v < p → val (tom v) = v) (ls : List (List Nat)) (hg : ∀ l ∈ ls, ∀ i, i < n → chunk sz l i < p) (acc : List Nat) :
    (ls.foldl (fun acc l => addN p acc ((chunks sz n l).map tom)) acc).map val = ls.foldl (fun acc l => addN p acc ((chunks sz n l).map id)) (acc.map val) := by
  induction ls generalizing acc with
  | nil => rfl
  | cons l ls ih =>
    rw [List.foldl_cons, List.foldl_cons, ih (fun l' hl' => hg l' (List.mem_cons_of_mem _ hl')), map_addN p val hadd]
    congr 2
    rw [List.map_map]
    refine List.map_congr_left fun x hx => ?_
    obtain ⟨i, hi, rfl⟩ := List.mem_map.1 hx
    exact ht _ (hg l List.mem_cons_self i (List.mem_range.1 hi))
theorem sumN_val (p sz n : Nat) (tom val : Nat → Nat) (hadd : ∀ a b, val ((a + b) % p) = (val a + val b) % p) (ht : ∀ v, v < p → val (tom v) = v) (h0 : val 0 = 0) (ls : List (List Nat)) (hg : ∀ l ∈ ls, ∀ i, i < n → chunk sz l i < p) :
    (sumN p sz n tom ls).map val = sumN p sz n id ls := by
  unfold sumN
  rw [fold_val p sz n tom val hadd ht ls hg, List.map_replicate, h0]
theorem flat_map (f : Nat → List Nat) (g : Nat → Nat) (vs : List Nat) : flat (fun v => f (g v)) vs = flat f (vs.map g) := by
  simp [flat, List.flatMap_map]
theorem flat64_sum (n : Nat) (ls : List (List Nat)) (hg : ∀ l ∈ ls, ∀ i, i < n → chunk 8 l i < P64) : flat out64 (sumN P64 8 n tom64 ls) = flat (bytesL 8) (sumN P64 8 n id ls) := by
  rw [← sumN_val P64 8 n tom64 val64 val_add64 (fun v h => val_tom64 h) (by decide) ls hg, ← flat_map]
  rfl
theorem flat128_sum (n : Nat) (ls : List (List Nat)) (hg : ∀ l ∈ ls, ∀ i, i < n → chunk 16 l i < P128) : flat out128 (sumN P128 16 n tom128 ls) = flat (bytesL 16) (sumN P128 16 n id ls) := by
  rw [← sumN_val P128 16 n tom128 val128 val_add128 (fun v h => val_tom128 h) (by decide) ls hg, ← flat_map]
  rfl

theorem addN_turn (p : Nat) (a x y : List Nat) : addN p (addN p a x) y = addN p (addN p a y) x := by
  unfold addN
  induction a generalizing x y with
  | nil => simp
  | cons a0 a ih =>
    cases x with
    | nil => cases y <;> simp
    | cons x0 x =>
      cases y with
      | nil => simp
      | cons y0 y =>
        simp only [List.zipWith_cons_cons, ih x y, Nat.mod_add_mod, Nat.add_right_comm a0 x0 y0]
theorem fold_turn {α β : Type} (f : β → α → β) (hf : ∀ a x y, f (f a x) y = f (f a y) x) (l : List α) (a : β) (x : α) : l.foldl f (f a x) = f (l.foldl f a) x := by
  induction l generalizing a with
  | nil => rfl
  | cons y l ih => rw [List.foldl_cons, List.foldl_cons, hf, ih]
theorem fold_rev {α β : Type} (f : β → α → β) (hf : ∀ a x y, f (f a x) y = f (f a y) x) (l : List α) (a : β) : l.reverse.foldl f a = l.foldl f a := by
  induction l generalizing a with
  | nil => rfl
  | cons y l ih => rw [List.reverse_cons, List.foldl_append, ih, List.foldl_cons, List.foldl_nil, List.foldl_cons, fold_turn f hf]
theorem sumN_rev (p sz n : Nat) (f : Nat → Nat) (ls : List (List Nat)) : sumN p sz n f ls.reverse = sumN p sz n f ls :=
  fold_rev (fun acc l => addN p acc ((chunks sz n l).map f)) (fun a _ _ => addN_turn p a _ _) ls _

theorem all_mem {P : List Nat → Prop} (ls : List (List Nat)) : (∀ i, i < ls.length → P (ls.getD i [])) ↔ ∀ l ∈ ls, P l := by
  constructor
  · intro h l hl
    obtain ⟨i, hi, rfl⟩ := List.getElem_of_mem hl
    have := h i hi
    simpa [List.getD, hi] using this
  · intro h i hi
    have := h ls[i] (List.getElem_mem hi)
    simpa [List.getD, hi] using this
theorem good_lt {sz p n : Nat} {l : List Nat} (h : good sz p n l) : ∀ i, i < n → chunk sz l i < p := ((okN_iff _ _ _ _).1 h.1).2
theorem all_rev {P : List Nat → Prop} (ls : List (List Nat)) : (∀ i, i < ls.reverse.length → P (ls.reverse.getD i [])) ↔ ∀ i, i < ls.length → P (ls.getD i []) := by
  rw [all_mem, all_mem]
  simp
end Go.Proofs.YtlmmdldjfpdcfaaGreatDoor

/-
  slices.Equal on bytes.
-/
namespace Go.Proofs.YtlmmdldjfpdcfaaGreatDoor
open Go.RowKit

theorem eqBytes {b1 o1 c1 b2 o2 c2 n1 n2 : Nat} {l1 l2 : List Nat} {w : World} (h1 : l1.length = n1) (h2 : l2.length = n2) (hn : n1 ≤ 100000)
    (k1 : ∀ i, i < n1 → w.cell? ⟨b1, o1 + i, none⟩ = some (.int .u8 (l1.getD i 0 : Nat))) (k2 : ∀ i, i < n2 → w.cell? ⟨b2, o2 + i, none⟩ = some (.int .u8 (l2.getD i 0 : Nat))) :
    Calls Tryz.prog 12 #[.slice (some ⟨b1, o1, none⟩) n1 c1, .slice (some ⟨b2, o2, none⟩) n2 c2] w fun e w' => e = .returned (.bool (decide (l1 = l2))) ∧ Ext w w' No := by
  have K1 := Lib.hid k1; clear k1
  have K2 := Lib.hid k2; clear k2
  by_cases hne : n1 = n2
  · subst hne
    have H1 := Lib.hid h1; clear h1
    have H2 := Lib.hid h2; clear h2
    go_enter Tryz.func12, Tryz.ntmps12
    go_wp2
    go_loopw [13] (fun i wr => ∃ j : Nat, j ≤ n1 ∧ i = .int .i64 j ∧ Ext w wr No ∧ Hid (∀ i, i < j → l1.getD i 0 = l2.getD i 0)) (fun i _ => n1 - (intOf i).toNat)
    case atStart => exact ⟨0, by omega, rfl, Ext.refl _ _, fun i hi => by omega⟩
    case round =>
      obtain ⟨j, hj, rfl, hx, hE⟩ := hrel
      by_cases hjn : j = n1
      · subst hjn
        have heq : l1 = l2 := by
          apply List.ext_getElem?
          intro i
          by_cases hi : i < j
          · have h := hE.out i hi
            simp only [List.getD_eq_getElem?_getD] at h
            have a1 := H1.out
            have a2 := H2.out
            rw [List.getElem?_eq_getElem (by omega), List.getElem?_eq_getElem (by omega)] at h ⊢
            simpa using h
          · have a1 := H1.out
            have a2 := H2.out
            rw [List.getElem?_eq_none (by omega), List.getElem?_eq_none (by omega)]
        have D := decide_eq_true heq
        have HD := Lib.hid D; clear D heq
        go_wp2
        go_ret
        exact ⟨by rw [HD.out]; rfl, hx⟩
      · have hlj : j < n1 := by omega
        have c1 := hx.cellNo (K1.out j hlj)
        have c2 := hx.cellNo (K2.out j hlj)
        have i1 : (0 : Int) ≤ (j : Int) := by omega
        have i2 : (j : Int) < (n1 : Int) := by omega
        have cc1 : ∀ i, (wr.drewN i).cell? ⟨b1, o1 + j, none⟩ = some (.int .u8 (l1.getD j 0 : Nat)) := fun _ => c1
        have cc2 : ∀ i, (wr.drewN i).cell? ⟨b2, o2 + j, none⟩ = some (.int .u8 (l2.getD j 0 : Nat)) := fun _ => c2
        generalize hx1 : l1.getD j 0 = x1 at *
        generalize hx2 : l2.getD j 0 = x2 at *
        by_cases hq : x1 = x2
        · subst hq
          go_wp2_with fail
          go_quiet (fail)
          go_wp2
          exact ⟨⟨j + 1, by omega, by go_num, hx.drewN _, fun i hi => by
            by_cases h : i = j
            · subst h; rw [hx1, hx2]
            · exact hE.out i (by omega)⟩, by simp [intOf]; omega⟩
        · have d1 : ((x1 : Int) == (x2 : Int)) = false := by simp; omega
          have d2 : (x1 == x2) = false := by simpa using hq
          have D : decide (l1 = l2) = false := decide_eq_false (fun e => hq (by rw [← hx1, ← hx2, e]))
          have HD := Lib.hid D; clear D
          go_wp2_with fail
          go_quiet (fail)
          go_wp2
          go_ret
          exact ⟨by rw [HD.out]; rfl, hx.drewN _⟩
  · have d1 : ((n1 : Int) == (n2 : Int)) = false := by simp; omega
    have d2 : (n1 == n2) = false := by simpa using hne
    have D : decide (l1 = l2) = false := decide_eq_false (fun e => hne (by rw [← h1, ← h2, e]))
    have HD := Lib.hid D; clear D
    clear h1 h2
    go_enter Tryz.func12, Tryz.ntmps12
    go_wp2
    go_ret
    exact ⟨by rw [HD.out]; rfl, Ext.refl _ _⟩
end Go.Proofs.YtlmmdldjfpdcfaaGreatDoor

/-
  zzFits2: the test on the shares' lengths.
-/
namespace Go.Proofs.YtlmmdldjfpdcfaaGreatDoor
open Go.RowKit

theorem fits2 {v : Value} {ls : List (List Nat)} {w : World} (hS : IsBs w v ls) : Calls Tryz.prog 7 #[v] w fun e w' => (∃ r, e = .returned (.bool r)) ∧ w = w' := by
  obtain ⟨a, c, rfl, hls⟩ := hS
  obtain ⟨N, hN⟩ : ∃ N, N = ls.length := ⟨_, rfl⟩
  rw [← hN] at hls ⊢
  clear hN
  have HLS := Lib.hid hls; clear hls
  by_cases hb : N ≤ 2147483647
  · have d : decide ((2147483647 : Int) < (N : Int)) = false := decide_eq_false (by omega)
    have d2 : decide (2147483647 < N) = false := decide_eq_false (by omega)
    go_enter Tryz.func7, Tryz.ntmps7
    go_wp2
    go_loopw [10] (fun i wr => ∃ j : Nat, j ≤ N ∧ i = .int .i64 j ∧ w = wr) (fun i _ => N - (intOf i).toNat)
    case atStart => exact ⟨0, by omega, rfl, rfl⟩
    case round =>
      obtain ⟨j, hj, rfl, rfl⟩ := hrel
      by_cases hjn : j = N
      · subst hjn
        go_wp2
        go_ret
        exact ⟨⟨_, rfl⟩, rfl⟩
      · have hlj : j < N := by omega
        obtain ⟨b, o, rfl, hh⟩ := HLS.out.resolve_left (by omega)
        obtain ⟨u, hu, -, a2, c2, rfl, -⟩ := hh j hlj
        generalize (ls.getD j []).length = L at *
        by_cases hL : L ≤ 2147483647
        · have e1 : decide ((2147483647 : Int) < (L : Int)) = false := decide_eq_false (by omega)
          have e2 : decide (2147483647 < L) = false := decide_eq_false (by omega)
          clear hL
          go_wp2
          exact ⟨⟨j + 1, by omega, by go_num, trivial⟩, by simp [intOf]; omega⟩
        · have e1 : decide ((2147483647 : Int) < (L : Int)) = true := decide_eq_true (by omega)
          have e2 : decide (2147483647 < L) = true := decide_eq_true (by omega)
          clear hL
          go_wp2
          go_ret
          exact ⟨⟨_, rfl⟩, rfl⟩
  · have d : decide ((2147483647 : Int) < (N : Int)) = true := decide_eq_true (by omega)
    have d2 : decide (2147483647 < N) = true := decide_eq_true (by omega)
    clear hb
    go_enter Tryz.func7, Tryz.ntmps7
    go_wp2
    go_ret
    exact ⟨⟨_, rfl⟩, rfl⟩
end Go.Proofs.YtlmmdldjfpdcfaaGreatDoor
