/-
  slices.Clone and slices.Reverse on a list of shares.
-/
import Derived.Test.YtlmmdldjfpdcfaaGreatDoorSpecI
import Derived.Test.YtlmmdldjfpdcfaaGreatDoorM28
import Derived.Deep.Slices
import Derived.BigRegion
import Derived.Test.YtlmmdldjfpdcfaaGreatDoorExaA
namespace Go.Proofs.YtlmmdldjfpdcfaaGreatDoor
open Go.RowKit

theorem info23 : (Tryz.prog.info? 23).map (fun i => (i.zero, i.size, i.bytes)) = some (some (.slice none 0 0), 1, 24) := by kernel_rfl
/-- The shares' slices, as values: what stands in the list's cells. -/
theorem bs_vals {w : World} {a : Option Addr} {N c : Nat} {ls : List (List Nat)} (hS : IsBs w (.slice a N c) ls) : ls.length = N ∧ ∃ f : Nat → Value, ∀ i, i < N → IsB w (f i) (ls.getD i []) ∧ ∀ b o, a = some ⟨b, o, none⟩ → w.cell? ⟨b, o + i, none⟩ = some (f i) := by
  obtain ⟨a', c', he, hh⟩ := hS
  simp only [Value.slice.injEq] at he
  obtain ⟨rfl, rfl, rfl⟩ := he
  refine ⟨rfl, ?_⟩
  rcases hh with h0 | ⟨b, o, rfl, hh⟩
  · exact ⟨fun _ => undef, fun i hi => by omega⟩
  · have each : ∀ i, i < ls.length → ∃ u, w.cell? ⟨b, o + i, none⟩ = some u ∧ IsB w u (ls.getD i []) := hh
    have : Inhabited Value := ⟨undef⟩
    obtain ⟨f, hf⟩ := Go.Deep.choose_lt each
    refine ⟨f, fun i hi => ⟨(hf i hi).2, fun b' o' he => ?_⟩⟩
    simp only [Option.some.injEq, Addr.mk.injEq] at he
    obtain ⟨rfl, rfl, -⟩ := he
    exact (hf i hi).1
theorem isB_one {w : World} {v : Value} {l : List Nat} (h : IsB w v l) : v.oneCell' = true := by
  obtain ⟨-, a, c, rfl, -⟩ := h
  rfl

set_option maxRecDepth 20000 in
set_option maxHeartbeats 2000000 in
theorem cloneBs {ad : Addr} {N c : Nat} {f : Nat → Value} {w : World} (hN : N ≤ 300) (hc : ∀ i, i < N → w.cell? (ad.add i) = some (f i)) (h1 : ∀ i, i < N → (f i).oneCell' = true) :
    Calls Tryz.prog 15 #[.slice (some ad) N c] w fun e w' => ∃ v, e = .returned v ∧ Gro w 23 1 v N ((List.range N).map f) w' := by
  have HC := Lib.hid hc; clear hc
  have H1 := Lib.hid h1; clear h1
  have hg := Gro.new w w 23 1 (Ext.refl w No)
  have HG := Lib.hid hg; clear hg
  have happ : ∀ (ops : Array Oper) (rest : List Oper) (o' : Oper) (a : Act) (Q : Exit → Act → World → Prop) (_ : o'.guard = none) (_ : o'.op = .call { callee := .builtin .append, args := #[.tmp 5, .tmp 6], argTypes := #[26, 26] })
      (_ : a.eval (.tmp 5) = .slice (some ⟨w.heap.size, 0, none⟩) 0 0) (_ : a.eval (.tmp 6) = .slice (some ad) N c)
      (_ : ∀ v' w', Gro w 23 1 v' N ((List.range N).map f) w' → wpList Tryz.prog ops Q rest (a.put o'.dst v') w'), wpList Tryz.prog ops Q (o' :: rest) a (w.alloc (.cells #[] 23)) := by
    intro ops rest o' a Q hgd ho hs hx h
    obtain ⟨i, hi, hz, hs1, hb1⟩ := of_info info23
    refine wpList_append_own (P := Tryz.prog) (w.alloc (.cells #[] 23)) hgd (.tmp 5) (.tmp 6) 26 ho w.heap.size 23 i (.slice none 0 0) 1 24 Tryz.underlying26 hi hz hs1 hb1 rfl (by decide) _ 0 [] hs HG.out.1 ad N c ((List.range N).map f) hx (by simp) (fun j u hu => ?_) (fun u hu => ?_) (by simp only [maxLen]; omega) (by omega) HG.out.2.1.size (fun v' w' k1 k2 k3 => ?_)
    · obtain ⟨hj, rfl⟩ : j < N ∧ f j = u := by
        rw [List.getElem?_map] at hu
        by_cases hj : j < N
        · simp [hj] at hu; exact ⟨hj, hu⟩
        · simp [hj] at hu
      exact cell_alloc (HC.out j hj) _
    · obtain ⟨j, hj, rfl⟩ := List.mem_map.1 hu
      exact H1.out j (List.mem_range.1 hj)
    · refine h v' w' ⟨by simpa using k1, HG.out.2.1.grown k2 (fun k hk => .inl (HG.out.ownBlock_le k hk)), slice_len (by simpa using k1) (fun e => ?_)⟩
      have := (k3.1 e).1
      simp at this
  have HAPP := Lib.hid happ; clear happ
  have heq : ∀ w, (binOp BinOp.eql 26 (.slice (some ad) N c) (.slice none 0 0)).run Tryz.prog w = .ok (.bool false) w := fun _ => by kernel_rfl
  go_enter Tryz.func15, Tryz.ntmps15
  go_wp2_with ((with_reducible refine at_dst 7 ?_); refine HAPP.out _ _ _ _ _ rfl rfl rfl rfl ?_; intro v' w' hG; have HGG := Lib.hid hG; clear hG)
  go_ret
  exact ⟨_, rfl, HGG.out⟩
set_option maxRecDepth 20000 in
theorem cloneNil (w : World) : Calls Tryz.prog 15 #[.slice none 0 0] w fun e w' => e = .returned (.slice none 0 0) ∧ Ext w w' No := by
  have heq : ∀ w, (binOp BinOp.eql 26 (.slice none 0 0) (.slice none 0 0)).run Tryz.prog w = .ok (.bool true) w := fun _ => by kernel_rfl
  go_enter Tryz.func15, Tryz.ntmps15
  go_wp2
  go_ret
  exact ⟨rfl, Ext.refl _ _⟩
set_option maxRecDepth 20000 in
theorem revNil {a : Option Addr} {c : Nat} (w : World) : Calls Tryz.prog 16 #[.slice a 0 c] w fun e w' => e = .returned (.tuple #[]) ∧ Ext w w' No := by
  go_enter Tryz.func16, Tryz.ntmps16
  go_wp2
  go_loopw [2, 3] (fun i j wr => i = .int .i64 0 ∧ j = .int .i64 (-1) ∧ w = wr) (fun _ _ _ => 0)
  case atStart => exact ⟨rfl, rfl, rfl⟩
  case round =>
    obtain ⟨rfl, rfl, rfl⟩ := hrel
    go_wp2
    go_end0
    exact ⟨rfl, Ext.refl _ _⟩
end Go.Proofs.YtlmmdldjfpdcfaaGreatDoor

/-
  slices.Reverse on a list of shares.
-/
namespace Go.Proofs.YtlmmdldjfpdcfaaGreatDoor
open Go.RowKit

/-- Where the turning stands: those ahead of t and behind q have changed places. -/
def Rev (g cap N : Nat) (f : Nat → Value) (t q : Nat) (w : World) : Prop := ∃ cur : Array Value, w.heap[g]? = some (.cells cur 23 (0, 0)) ∧ cur.size = cap ∧ N ≤ cap ∧ ∀ k, k < N → cur[k]? = some (if k < t ∨ q < k then f (N - 1 - k) else f k)

set_option maxRecDepth 20000 in
set_option maxHeartbeats 2000000 in
theorem revBs {g cap N : Nat} {A : Nat → Option Addr} {Ln Cp : Nat → Nat} {w : World} (hN0 : 0 < N) (hN : N ≤ 300) (hR : Rev g cap N (fun i => .slice (A i) (Ln i) (Cp i)) 0 (N - 1) w) :
    Calls Tryz.prog 16 #[.slice (some ⟨g, 0, none⟩) N cap] w fun e w' => e = .returned (.tuple #[]) ∧ Ext w w' (fun k => k = g) ∧ ∃ cur : Array Value, w'.heap[g]? = some (.cells cur 23 (0, 0)) ∧ ∀ k, k < N → cur[k]? = some (.slice (A (N - 1 - k)) (Ln (N - 1 - k)) (Cp (N - 1 - k))) := by
  have h0 : Hid (Ext w w (fun k => k = g) ∧ Rev g cap N (fun i => .slice (A i) (Ln i) (Cp i)) 0 (N - 1) w) := ⟨Ext.refl _ _, hR⟩
  clear hR
  go_enter Tryz.func16, Tryz.ntmps16
  go_wp2
  go_loopw [2, 3] (fun i j wr => ∃ t q : Nat, t + q + 1 = N ∧ t ≤ q + 1 ∧ i = .int .i64 t ∧ j = .int .i64 q ∧ Hid (Ext w wr (fun k => k = g) ∧ Rev g cap N (fun i => .slice (A i) (Ln i) (Cp i)) t q wr)) (fun i j _ => (intOf j + 1 - intOf i).toNat)
  case atStart => exact ⟨0, N - 1, by omega, by omega, rfl, by congr 1; omega, h0⟩
  case round =>
    obtain ⟨t, q, htq, hle, rfl, rfl, hS⟩ := hrel
    obtain ⟨hx, cur, hb, hsz, hNc, hk⟩ := hS.out
    by_cases hlt : t < q
    · have ct : wr.cell? ⟨g, t, none⟩ = some (.slice (A t) (Ln t) (Cp t)) := by rw [blk_cell hb, hk t (by omega), if_neg (by omega)]
      have cq : wr.cell? ⟨g, q, none⟩ = some (.slice (A q) (Ln q) (Cp q)) := by rw [blk_cell hb, hk q (by omega), if_neg (by omega)]
      have ft := blk_frz hb t
      have fq := blk_frz hb q
      have i1 : (0 : Int) ≤ (t : Int) := by omega
      have i2 : (t : Int) < (N : Int) := by omega
      have i3 : (0 : Int) ≤ (q : Int) := by omega
      have i4 : (q : Int) < (N : Int) := by omega
      have n1 : ¬ t = q := by omega
      have n2 : ¬ q = t := by omega
      have HB := Lib.hid hb; clear hb
      have HK := Lib.hid hk; clear hk
      go_wp2_with fail
      go_region
      go_wp2
      have hB := blk_set (blk_set HB.out t (.slice (A q) (Ln q) (Cp q))) q (.slice (A t) (Ln t) (Cp t))
      refine ⟨⟨t + 1, q - 1, by omega, by omega, by go_num, by congr 1; omega, ((hx.set (.inr rfl) _).set (.inr rfl) _).drew, _, hB, by simpa using hsz, hNc, fun k hkN => ?_⟩, by simp [intOf]; omega⟩
      by_cases hkq : k = q
      · subst hkq
        rw [Array.getElem?_setIfInBounds_self_of_lt (by simp; omega), if_pos (by omega), show N - 1 - k = t from by omega]
      · rw [Array.getElem?_setIfInBounds_ne (fun e => hkq e.symm)]
        by_cases hkt : k = t
        · subst hkt
          rw [Array.getElem?_setIfInBounds_self_of_lt (by omega), if_pos (by omega), show N - 1 - k = q from by omega]
        · rw [Array.getElem?_setIfInBounds_ne (fun e => hkt e.symm), HK.out k hkN]
          by_cases h : k < t ∨ q < k
          · rw [if_pos h, if_pos (by omega)]
          · rw [if_neg h, if_neg (by omega)]
    · have d : decide ((t : Int) < (q : Int)) = false := decide_eq_false (by omega)
      go_wp2
      go_end0
      refine ⟨rfl, hx, cur, hb, fun k hkN => ?_⟩
      rw [hk k hkN]
      by_cases h : k < t ∨ q < k
      · rw [if_pos h]
      · rw [if_neg h, show N - 1 - k = k from by omega]
end Go.Proofs.YtlmmdldjfpdcfaaGreatDoor

/-
  slices.Clone and slices.Reverse: the list turned.
-/
namespace Go.Proofs.YtlmmdldjfpdcfaaGreatDoor
open Go.RowKit

/-- A copy of the list, in a row of its own. -/
def Cloned (w : World) (ls : List (List Nat)) (v : Value) (w' : World) : Prop := Ext w w' No ∧ ∃ a c, v = .slice a ls.length c ∧
  (ls.length = 0 ∨ ∃ (g : Nat) (A : Nat → Option Addr) (Ln Cp : Nat → Nat), a = some ⟨g, 0, none⟩ ∧ w.heap.size ≤ g ∧ Rev g c ls.length (fun i => .slice (A i) (Ln i) (Cp i)) 0 (ls.length - 1) w' ∧
    ∀ i, i < ls.length → IsB w (.slice (A i) (Ln i) (Cp i)) (ls.getD i []))
theorem cloneAny {v : Value} {ls : List (List Nat)} {w : World} (hS : IsBs w v ls) (hnil : ∀ a L C, v = .slice a L C → a = none → C = 0) (hN : ls.length ≤ 300) :
    Calls Tryz.prog 15 #[v] w fun e w' => ∃ v', e = .returned v' ∧ Cloned w ls v' w' := by
  have hS0 := hS
  obtain ⟨a, c, rfl, -⟩ := hS0
  obtain ⟨-, f, hf⟩ := bs_vals hS
  have hsl : ∀ i, ∃ y : Option Addr × Nat × Nat, i < ls.length → f i = .slice y.1 y.2.1 y.2.2 := by
    intro i
    by_cases hi : i < ls.length
    · obtain ⟨-, a', c', he, -⟩ := (hf i hi).1
      exact ⟨(a', (ls.getD i []).length, c'), fun _ => he⟩
    · exact ⟨(none, 0, 0), fun h => absurd h hi⟩
  obtain ⟨y, hy⟩ := Classical.axiomOfChoice hsl
  cases a with
  | none =>
    obtain rfl := hnil _ _ _ rfl rfl
    have h0 : ls.length = 0 := by
      obtain ⟨a', c', he, hh⟩ := hS
      rcases hh with h | ⟨b, o, ha, -⟩
      · exact h
      · simp at he
        rw [ha] at he
        simp at he
    rw [h0]
    refine (cloneNil w).mono ?_
    rintro e w' ⟨rfl, hx⟩
    exact ⟨_, rfl, hx, none, 0, by rw [h0], .inl h0⟩
  | some ad =>
    have hc : ∀ i, i < ls.length → w.cell? (ad.add i) = some (.slice (y i).1 (y i).2.1 (y i).2.2) := by
      intro i hi
      obtain ⟨a', c', he, hh⟩ := hS
      simp only [Value.slice.injEq] at he
      obtain ⟨rfl, -, rfl⟩ := he
      rcases hh with h | ⟨b, o, ha, -⟩
      · omega
      · obtain rfl := Option.some.inj ha
        rw [add0, (hf i hi).2 b o rfl, hy i hi]
    refine (cloneBs (f := fun i => .slice (y i).1 (y i).2.1 (y i).2.2) hN hc (fun _ _ => rfl)).mono ?_
    rintro e w' ⟨v', rfl, hG⟩
    refine ⟨v', rfl, hG.2.1, ?_⟩
    obtain ⟨⟨hxl, h1⟩, -, a', c', rfl⟩ := hG
    refine ⟨some a', c', rfl, ?_⟩
    by_cases h0 : ls.length = 0
    · exact .inl h0
    · right
      rcases h1 with ⟨h1, -⟩ | ⟨g, cap, cur, h1, hle, hb, hnc, -, hsz, hxs⟩
      · simp at h1
      · simp only [Value.slice.injEq, Option.some.injEq, true_and] at h1
        obtain ⟨rfl, rfl⟩ := h1
        refine ⟨g, _, _, _, rfl, hle, ⟨cur, hb, by simpa using hsz, hnc, fun k hk => ?_⟩, fun i hi => by rw [← hy i hi]; exact (hf i hi).1⟩
        rw [if_neg (by omega)]
        have e := congrArg (fun l => l[k]?) hxs
        simp only [Nat.mul_one] at e
        rw [List.getElem?_take_of_lt hk, List.getElem?_map, List.getElem?_range hk] at e
        simpa using e
theorem revAny {v : Value} {ls : List (List Nat)} {w w' : World} (hC : Cloned w ls v w') (hN : ls.length ≤ 300) :
    Calls Tryz.prog 16 #[v] w' fun e w'' => e = .returned (.tuple #[]) ∧ Ext w w'' No ∧ IsBs w'' v ls.reverse := by
  obtain ⟨hx, a, c, rfl, h⟩ := hC
  by_cases h0 : ls.length = 0
  · rw [h0]
    refine (revNil w').mono ?_
    rintro e w2 ⟨rfl, hx2⟩
    exact ⟨rfl, hx.transNo hx2, a, c, by rw [List.length_reverse, h0], .inl (by rw [List.length_reverse, h0])⟩
  · obtain ⟨g, A, Ln, Cp, rfl, hle, hR, hB⟩ := h.resolve_left h0
    refine (revBs (by omega) hN hR).mono ?_
    rintro e w2 ⟨rfl, hx2, cur, hb, hk⟩
    have hx3 : Ext w w2 No := hx.trans hx2 (fun i hi e => by omega)
    refine ⟨rfl, hx3, some ⟨g, 0, none⟩, c, by rw [List.length_reverse], .inr ⟨g, 0, rfl, fun i hi => ⟨_, by rw [Nat.zero_add, blk_cell hb, hk i (by simpa using hi)], ?_⟩⟩⟩
    rw [List.length_reverse] at hi
    have e : ls.reverse.getD i [] = ls.getD (ls.length - 1 - i) [] := by
      simp only [List.getD_eq_getElem?_getD]
      rw [List.getElem?_reverse hi]
    rw [e]
    exact (hB (ls.length - 1 - i) (by omega)).ext hx3
end Go.Proofs.YtlmmdldjfpdcfaaGreatDoor

/-
  FnAddTurns: the walk.
-/
namespace Go.Proofs.YtlmmdldjfpdcfaaGreatDoor
open Go.RowKit

set_option maxRecDepth 100000 in
set_option maxHeartbeats 4000000 in
theorem turnG {k s n b c m L C sz p out : Nat} {tom : Nat → Nat} {by' : Nat → List Nat} {a : Option Addr} {u : Value} {ls : List (List Nat)} {w : World} (hby : ∀ v, (by' v).length = sz) (hsz : out * sz ≤ 100000)
    (hL : L ≤ 4096) (hsm : s ≤ 255 ∧ n ≤ 16 ∧ b ≤ 80 ∧ c ≤ 16) (hk : kindI k s n b c m L) (hS : IsBs w u ls) (hlnil0 : ∀ a L C, u = .slice a L C → a = none → C = 0) (hN : ls.length ≤ 300)
    (hI : ∀ w' u' ls', Ext w w' No → IsBs w' u' ls' → ls'.length ≤ 300 → Calls Tryz.prog 10 #[parV k s n b c m (.slice a L C), u'] w' (Added w' sz p out tom by' ls'))
    (hP : ∀ w' u' ls', Ext w w' No → IsBs w' u' ls' → ls'.length ≤ 300 → Calls Tryz.prog 11 #[parV k s n b c m (.slice a L C), u'] w' (Added w' sz p out id (bytesL sz) ls')) :
    Calls Tryz.prog 5 #[parV k s n b c m (.slice a L C), u] w fun e w' => e = .returned (.bool true) ∧ Ext w w' No := by
  have h6 := fun w => fits1 (k := k) (s := s) (n := n) (b := b) (c := c) (m := m) (a := a) (L := L) (C := C) w
  rw [decide_eq_true (by omega : L ≤ 2147483647)] at h6
  have h8 := fun w => isSmall (k := k) (s := s) (n := n) (b := b) (c := c) (m := m) (a := a) (L := L) (C := C) w
  rw [decide_eq_true (by omega : (0 : Int) ≤ (s : Int) ∧ (s : Int) ≤ 255 ∧ (0 : Int) ≤ (n : Int) ∧ (n : Int) ≤ 16 ∧ (0 : Int) ≤ (b : Int) ∧ (b : Int) ≤ 80 ∧ (0 : Int) ≤ (c : Int) ∧ (c : Int) ≤ 16 ∧ L ≤ 4096)] at h8
  have h9 := fun w => kind_true (a := a) (C := C) hk w
  have h7 := fun w' (hx : Ext w w' No) => fits2 (hS.ext hx)
  have hS0 := hS
  obtain ⟨la, lc, rfl, -⟩ := hS0
  have HNIL := Lib.hid hlnil0
  have hNr : ls.reverse.length ≤ 300 := by rw [List.length_reverse]; exact hN
  have HS := Lib.hid hS; clear hS hlnil0
  have H6 := Lib.hid h6; clear h6
  have H7 := Lib.hid h7; clear h7
  have H8 := Lib.hid h8; clear h8
  have H9 := Lib.hid h9; clear h9
  have HI := Lib.hid hI; clear hI
  have HP := Lib.hid hP; clear hP
  have HBY := Lib.hid hby; clear hby
  clear hk hsm hL
  have d1 : decide ((300 : Int) < (ls.length : Int)) = false := decide_eq_false (by omega)
  have d2 : decide (300 < ls.length) = false := decide_eq_false (by omega)
  unfold parI at *
  unfold parV at *
  by_cases hgd : ∀ i, i < ls.length → good sz p out (ls.getD i [])
  · have hgr := (all_rev (P := good sz p out) ls).2 hgd
    have HGD := Lib.hid hgd; clear hgd
    have HGR := Lib.hid hgr; clear hgr
    go_enter Tryz.func5, Tryz.ntmps5
    go_wp2_with (first
    | (go_at_call 6; refine (H6.out _).mono ?_; rintro e w1 ⟨rfl, hx1⟩; have q := hx1.blkNo (blk_new _ _); have c0 : w1.cell? ⟨w.heap.size, 0, none⟩ = some (.int .i64 (k : Nat)) := blk_cell q 0; have c1 : w1.cell? ⟨w.heap.size, 1, none⟩ = some (.int .i64 (s : Nat)) := blk_cell q 1; have c2 : w1.cell? ⟨w.heap.size, 2, none⟩ = some (.int .i64 (n : Nat)) := blk_cell q 2; have c3 : w1.cell? ⟨w.heap.size, 3, none⟩ = some (.int .i64 (b : Nat)) := blk_cell q 3; have c4 : w1.cell? ⟨w.heap.size, 4, none⟩ = some (.int .i64 (c : Nat)) := blk_cell q 4; have c5 : w1.cell? ⟨w.heap.size, 5, none⟩ = some (.int .u64 (m : Nat)) := blk_cell q 5; have c6 : w1.cell? ⟨w.heap.size, 6, none⟩ = some (.slice a L C) := blk_cell q 6; have HQ1 := Lib.hid q; clear q; have hx01 := ((Ext.refl w No).alloc _).transNo hx1; have HX1 := Lib.hid hx01; clear hx1 hx01)
    | (go_at_call 7; refine (H7.out _ HX1.out).mono ?_; rintro e w2 ⟨⟨r, rfl⟩, rfl⟩)
    | (go_at_call 8; refine (H8.out _).mono ?_; rintro e w2 ⟨rfl, hx2⟩; clear c0 c1 c2 c3 c4 c5 c6; have q := hx2.blkNo HQ1.out; have c0 : w2.cell? ⟨w.heap.size, 0, none⟩ = some (.int .i64 (k : Nat)) := blk_cell q 0; have c1 : w2.cell? ⟨w.heap.size, 1, none⟩ = some (.int .i64 (s : Nat)) := blk_cell q 1; have c2 : w2.cell? ⟨w.heap.size, 2, none⟩ = some (.int .i64 (n : Nat)) := blk_cell q 2; have c3 : w2.cell? ⟨w.heap.size, 3, none⟩ = some (.int .i64 (b : Nat)) := blk_cell q 3; have c4 : w2.cell? ⟨w.heap.size, 4, none⟩ = some (.int .i64 (c : Nat)) := blk_cell q 4; have c5 : w2.cell? ⟨w.heap.size, 5, none⟩ = some (.int .u64 (m : Nat)) := blk_cell q 5; have c6 : w2.cell? ⟨w.heap.size, 6, none⟩ = some (.slice a L C) := blk_cell q 6; have HQ2 := Lib.hid q; clear q; have hx02 := HX1.out.transNo hx2; have HX2 := Lib.hid hx02; clear hx2 hx02)
    | (go_at_call 9; refine (H9.out _).mono ?_; rintro e w3 ⟨rfl, hx3⟩; clear c0 c1 c2 c3 c4 c5 c6; have q := hx3.blkNo HQ2.out; have c0 : w3.cell? ⟨w.heap.size, 0, none⟩ = some (.int .i64 (k : Nat)) := blk_cell q 0; have c1 : w3.cell? ⟨w.heap.size, 1, none⟩ = some (.int .i64 (s : Nat)) := blk_cell q 1; have c2 : w3.cell? ⟨w.heap.size, 2, none⟩ = some (.int .i64 (n : Nat)) := blk_cell q 2; have c3 : w3.cell? ⟨w.heap.size, 3, none⟩ = some (.int .i64 (b : Nat)) := blk_cell q 3; have c4 : w3.cell? ⟨w.heap.size, 4, none⟩ = some (.int .i64 (c : Nat)) := blk_cell q 4; have c5 : w3.cell? ⟨w.heap.size, 5, none⟩ = some (.int .u64 (m : Nat)) := blk_cell q 5; have c6 : w3.cell? ⟨w.heap.size, 6, none⟩ = some (.slice a L C) := blk_cell q 6; have HQ3 := Lib.hid q; clear q; have hx03 := HX2.out.transNo hx3; have HX3 := Lib.hid hx03; clear hx3 hx03)
    | (go_at_call 15; refine (cloneAny (HS.out.ext HX3.out) HNIL.out hN).mono ?_; rintro e w4 ⟨v4, rfl, hC4⟩; clear c0 c1 c2 c3 c4 c5 c6; have HC4 := Lib.hid hC4; clear hC4)
    | (go_at_call 16; refine (revAny HC4.out hN).mono ?_; rintro e w5 ⟨rfl, hx5, hS5⟩; have q := hx5.blkNo HQ3.out; have c0 : w5.cell? ⟨w.heap.size, 0, none⟩ = some (.int .i64 (k : Nat)) := blk_cell q 0; have c1 : w5.cell? ⟨w.heap.size, 1, none⟩ = some (.int .i64 (s : Nat)) := blk_cell q 1; have c2 : w5.cell? ⟨w.heap.size, 2, none⟩ = some (.int .i64 (n : Nat)) := blk_cell q 2; have c3 : w5.cell? ⟨w.heap.size, 3, none⟩ = some (.int .i64 (b : Nat)) := blk_cell q 3; have c4 : w5.cell? ⟨w.heap.size, 4, none⟩ = some (.int .i64 (c : Nat)) := blk_cell q 4; have c5 : w5.cell? ⟨w.heap.size, 5, none⟩ = some (.int .u64 (m : Nat)) := blk_cell q 5; have c6 : w5.cell? ⟨w.heap.size, 6, none⟩ = some (.slice a L C) := blk_cell q 6; have HQ5 := Lib.hid q; clear q; have hx05 := HX3.out.transNo hx5; have HX5 := Lib.hid hx05; have HS5 := Lib.hid hS5; clear hx5 hx05 hS5)
    | (go_at_call 10; refine (HI.out _ _ ls.reverse HX6.out (HS5.out.ext HA6.out) hNr).mono ?_; intro e w7 hA; clear c0 c1 c2 c3 c4 c5 c6; have q := hA.1.blkNo HQ6.out; have c0 : w7.cell? ⟨w.heap.size, 0, none⟩ = some (.int .i64 (k : Nat)) := blk_cell q 0; have c1 : w7.cell? ⟨w.heap.size, 1, none⟩ = some (.int .i64 (s : Nat)) := blk_cell q 1; have c2 : w7.cell? ⟨w.heap.size, 2, none⟩ = some (.int .i64 (n : Nat)) := blk_cell q 2; have c3 : w7.cell? ⟨w.heap.size, 3, none⟩ = some (.int .i64 (b : Nat)) := blk_cell q 3; have c4 : w7.cell? ⟨w.heap.size, 4, none⟩ = some (.int .i64 (c : Nat)) := blk_cell q 4; have c5 : w7.cell? ⟨w.heap.size, 5, none⟩ = some (.int .u64 (m : Nat)) := blk_cell q 5; have c6 : w7.cell? ⟨w.heap.size, 6, none⟩ = some (.slice a L C) := blk_cell q 6; have HQ7 := Lib.hid q; clear q; have hx0 := HX6.out.transNo hA.1; have HX7 := Lib.hid hx0; have HA7 := Lib.hid hA.1; clear hx0; obtain ⟨g7, gc7, rfl, -, hc7⟩ := hA.2.1 HGR.out; have HC7 := Lib.hid hc7; clear hc7; clear hA)
    | (go_at_call 10; refine (HI.out _ _ ls HX5.out (HS.out.ext HX5.out) hN).mono ?_; intro e w6 hA; clear c0 c1 c2 c3 c4 c5 c6; have q := hA.1.blkNo HQ5.out; have c0 : w6.cell? ⟨w.heap.size, 0, none⟩ = some (.int .i64 (k : Nat)) := blk_cell q 0; have c1 : w6.cell? ⟨w.heap.size, 1, none⟩ = some (.int .i64 (s : Nat)) := blk_cell q 1; have c2 : w6.cell? ⟨w.heap.size, 2, none⟩ = some (.int .i64 (n : Nat)) := blk_cell q 2; have c3 : w6.cell? ⟨w.heap.size, 3, none⟩ = some (.int .i64 (b : Nat)) := blk_cell q 3; have c4 : w6.cell? ⟨w.heap.size, 4, none⟩ = some (.int .i64 (c : Nat)) := blk_cell q 4; have c5 : w6.cell? ⟨w.heap.size, 5, none⟩ = some (.int .u64 (m : Nat)) := blk_cell q 5; have c6 : w6.cell? ⟨w.heap.size, 6, none⟩ = some (.slice a L C) := blk_cell q 6; have HQ6 := Lib.hid q; clear q; have hx0 := HX5.out.transNo hA.1; have HX6 := Lib.hid hx0; have HA6 := Lib.hid hA.1; clear hx0; obtain ⟨g6, gc6, rfl, -, hc6⟩ := hA.2.1 HGD.out; have HC6 := Lib.hid hc6; clear hc6; clear hA)
    | (go_at_call 11; refine (HP.out _ _ ls HX7.out (HS.out.ext HX7.out) hN).mono ?_; intro e w8 hA; clear c0 c1 c2 c3 c4 c5 c6; have q := hA.1.blkNo HQ7.out; have c0 : w8.cell? ⟨w.heap.size, 0, none⟩ = some (.int .i64 (k : Nat)) := blk_cell q 0; have c1 : w8.cell? ⟨w.heap.size, 1, none⟩ = some (.int .i64 (s : Nat)) := blk_cell q 1; have c2 : w8.cell? ⟨w.heap.size, 2, none⟩ = some (.int .i64 (n : Nat)) := blk_cell q 2; have c3 : w8.cell? ⟨w.heap.size, 3, none⟩ = some (.int .i64 (b : Nat)) := blk_cell q 3; have c4 : w8.cell? ⟨w.heap.size, 4, none⟩ = some (.int .i64 (c : Nat)) := blk_cell q 4; have c5 : w8.cell? ⟨w.heap.size, 5, none⟩ = some (.int .u64 (m : Nat)) := blk_cell q 5; have c6 : w8.cell? ⟨w.heap.size, 6, none⟩ = some (.slice a L C) := blk_cell q 6; have HQ8 := Lib.hid q; clear q; have hx0 := HX7.out.transNo hA.1; have HX8 := Lib.hid hx0; have HA8 := Lib.hid hA.1; clear hx0; obtain ⟨g8, gc8, rfl, -, hc8⟩ := hA.2.1 HGD.out; have HC8 := Lib.hid hc8; clear hc8; clear hA)
    | (go_at_call 12; refine (eqBytes (l1 := flat by' (sumN p sz out tom ls)) (l2 := flat by' (sumN p sz out tom ls.reverse)) (by rw [flat_len _ sz HBY.out, sumN_len]) (by rw [flat_len _ sz HBY.out, sumN_len]) hsz (fun i hi => by rw [Nat.zero_add]; exact (HA7.out.transNo HA8.out).cellNo (HC6.out i hi)) (fun i hi => by rw [Nat.zero_add]; exact HA8.out.cellNo (HC7.out i hi))).mono ?_; rintro e w9 ⟨rfl, hx9⟩; rw [decide_eq_true (by rw [sumN_rev])]; have hx09 := HX8.out.transNo hx9; have HX9 := Lib.hid hx09; clear hx9 hx09))
    all_goals
      go_ret
      first
        | exact ⟨rfl, HX9.out⟩
        | exact ⟨rfl, HX1.out⟩
  · have hgr : ¬ ∀ i, i < ls.reverse.length → good sz p out (ls.reverse.getD i []) := fun h => hgd ((all_rev (P := good sz p out) ls).1 h)
    have HGD := Lib.hid hgd; clear hgd
    have HGR := Lib.hid hgr; clear hgr
    go_enter Tryz.func5, Tryz.ntmps5
    go_wp2_with (first
    | (go_at_call 6; refine (H6.out _).mono ?_; rintro e w1 ⟨rfl, hx1⟩; have q := hx1.blkNo (blk_new _ _); have c0 : w1.cell? ⟨w.heap.size, 0, none⟩ = some (.int .i64 (k : Nat)) := blk_cell q 0; have c1 : w1.cell? ⟨w.heap.size, 1, none⟩ = some (.int .i64 (s : Nat)) := blk_cell q 1; have c2 : w1.cell? ⟨w.heap.size, 2, none⟩ = some (.int .i64 (n : Nat)) := blk_cell q 2; have c3 : w1.cell? ⟨w.heap.size, 3, none⟩ = some (.int .i64 (b : Nat)) := blk_cell q 3; have c4 : w1.cell? ⟨w.heap.size, 4, none⟩ = some (.int .i64 (c : Nat)) := blk_cell q 4; have c5 : w1.cell? ⟨w.heap.size, 5, none⟩ = some (.int .u64 (m : Nat)) := blk_cell q 5; have c6 : w1.cell? ⟨w.heap.size, 6, none⟩ = some (.slice a L C) := blk_cell q 6; have HQ1 := Lib.hid q; clear q; have hx01 := ((Ext.refl w No).alloc _).transNo hx1; have HX1 := Lib.hid hx01; clear hx1 hx01)
    | (go_at_call 7; refine (H7.out _ HX1.out).mono ?_; rintro e w2 ⟨⟨r, rfl⟩, rfl⟩)
    | (go_at_call 8; refine (H8.out _).mono ?_; rintro e w2 ⟨rfl, hx2⟩; clear c0 c1 c2 c3 c4 c5 c6; have q := hx2.blkNo HQ1.out; have c0 : w2.cell? ⟨w.heap.size, 0, none⟩ = some (.int .i64 (k : Nat)) := blk_cell q 0; have c1 : w2.cell? ⟨w.heap.size, 1, none⟩ = some (.int .i64 (s : Nat)) := blk_cell q 1; have c2 : w2.cell? ⟨w.heap.size, 2, none⟩ = some (.int .i64 (n : Nat)) := blk_cell q 2; have c3 : w2.cell? ⟨w.heap.size, 3, none⟩ = some (.int .i64 (b : Nat)) := blk_cell q 3; have c4 : w2.cell? ⟨w.heap.size, 4, none⟩ = some (.int .i64 (c : Nat)) := blk_cell q 4; have c5 : w2.cell? ⟨w.heap.size, 5, none⟩ = some (.int .u64 (m : Nat)) := blk_cell q 5; have c6 : w2.cell? ⟨w.heap.size, 6, none⟩ = some (.slice a L C) := blk_cell q 6; have HQ2 := Lib.hid q; clear q; have hx02 := HX1.out.transNo hx2; have HX2 := Lib.hid hx02; clear hx2 hx02)
    | (go_at_call 9; refine (H9.out _).mono ?_; rintro e w3 ⟨rfl, hx3⟩; clear c0 c1 c2 c3 c4 c5 c6; have q := hx3.blkNo HQ2.out; have c0 : w3.cell? ⟨w.heap.size, 0, none⟩ = some (.int .i64 (k : Nat)) := blk_cell q 0; have c1 : w3.cell? ⟨w.heap.size, 1, none⟩ = some (.int .i64 (s : Nat)) := blk_cell q 1; have c2 : w3.cell? ⟨w.heap.size, 2, none⟩ = some (.int .i64 (n : Nat)) := blk_cell q 2; have c3 : w3.cell? ⟨w.heap.size, 3, none⟩ = some (.int .i64 (b : Nat)) := blk_cell q 3; have c4 : w3.cell? ⟨w.heap.size, 4, none⟩ = some (.int .i64 (c : Nat)) := blk_cell q 4; have c5 : w3.cell? ⟨w.heap.size, 5, none⟩ = some (.int .u64 (m : Nat)) := blk_cell q 5; have c6 : w3.cell? ⟨w.heap.size, 6, none⟩ = some (.slice a L C) := blk_cell q 6; have HQ3 := Lib.hid q; clear q; have hx03 := HX2.out.transNo hx3; have HX3 := Lib.hid hx03; clear hx3 hx03)
    | (go_at_call 15; refine (cloneAny (HS.out.ext HX3.out) HNIL.out hN).mono ?_; rintro e w4 ⟨v4, rfl, hC4⟩; clear c0 c1 c2 c3 c4 c5 c6; have HC4 := Lib.hid hC4; clear hC4)
    | (go_at_call 16; refine (revAny HC4.out hN).mono ?_; rintro e w5 ⟨rfl, hx5, hS5⟩; have q := hx5.blkNo HQ3.out; have c0 : w5.cell? ⟨w.heap.size, 0, none⟩ = some (.int .i64 (k : Nat)) := blk_cell q 0; have c1 : w5.cell? ⟨w.heap.size, 1, none⟩ = some (.int .i64 (s : Nat)) := blk_cell q 1; have c2 : w5.cell? ⟨w.heap.size, 2, none⟩ = some (.int .i64 (n : Nat)) := blk_cell q 2; have c3 : w5.cell? ⟨w.heap.size, 3, none⟩ = some (.int .i64 (b : Nat)) := blk_cell q 3; have c4 : w5.cell? ⟨w.heap.size, 4, none⟩ = some (.int .i64 (c : Nat)) := blk_cell q 4; have c5 : w5.cell? ⟨w.heap.size, 5, none⟩ = some (.int .u64 (m : Nat)) := blk_cell q 5; have c6 : w5.cell? ⟨w.heap.size, 6, none⟩ = some (.slice a L C) := blk_cell q 6; have HQ5 := Lib.hid q; clear q; have hx05 := HX3.out.transNo hx5; have HX5 := Lib.hid hx05; have HS5 := Lib.hid hS5; clear hx5 hx05 hS5)
    | (go_at_call 10; refine (HI.out _ _ ls.reverse HX6.out (HS5.out.ext HA6.out) hNr).mono ?_; intro e w7 hA; clear c0 c1 c2 c3 c4 c5 c6; have q := hA.1.blkNo HQ6.out; have c0 : w7.cell? ⟨w.heap.size, 0, none⟩ = some (.int .i64 (k : Nat)) := blk_cell q 0; have c1 : w7.cell? ⟨w.heap.size, 1, none⟩ = some (.int .i64 (s : Nat)) := blk_cell q 1; have c2 : w7.cell? ⟨w.heap.size, 2, none⟩ = some (.int .i64 (n : Nat)) := blk_cell q 2; have c3 : w7.cell? ⟨w.heap.size, 3, none⟩ = some (.int .i64 (b : Nat)) := blk_cell q 3; have c4 : w7.cell? ⟨w.heap.size, 4, none⟩ = some (.int .i64 (c : Nat)) := blk_cell q 4; have c5 : w7.cell? ⟨w.heap.size, 5, none⟩ = some (.int .u64 (m : Nat)) := blk_cell q 5; have c6 : w7.cell? ⟨w.heap.size, 6, none⟩ = some (.slice a L C) := blk_cell q 6; have HQ7 := Lib.hid q; clear q; have hx0 := HX6.out.transNo hA.1; have HX7 := Lib.hid hx0; have HA7 := Lib.hid hA.1; clear hx0; obtain rfl := hA.2.2 HGR.out; clear hA)
    | (go_at_call 10; refine (HI.out _ _ ls HX5.out (HS.out.ext HX5.out) hN).mono ?_; intro e w6 hA; clear c0 c1 c2 c3 c4 c5 c6; have q := hA.1.blkNo HQ5.out; have c0 : w6.cell? ⟨w.heap.size, 0, none⟩ = some (.int .i64 (k : Nat)) := blk_cell q 0; have c1 : w6.cell? ⟨w.heap.size, 1, none⟩ = some (.int .i64 (s : Nat)) := blk_cell q 1; have c2 : w6.cell? ⟨w.heap.size, 2, none⟩ = some (.int .i64 (n : Nat)) := blk_cell q 2; have c3 : w6.cell? ⟨w.heap.size, 3, none⟩ = some (.int .i64 (b : Nat)) := blk_cell q 3; have c4 : w6.cell? ⟨w.heap.size, 4, none⟩ = some (.int .i64 (c : Nat)) := blk_cell q 4; have c5 : w6.cell? ⟨w.heap.size, 5, none⟩ = some (.int .u64 (m : Nat)) := blk_cell q 5; have c6 : w6.cell? ⟨w.heap.size, 6, none⟩ = some (.slice a L C) := blk_cell q 6; have HQ6 := Lib.hid q; clear q; have hx0 := HX5.out.transNo hA.1; have HX6 := Lib.hid hx0; have HA6 := Lib.hid hA.1; clear hx0; obtain rfl := hA.2.2 HGD.out; clear hA)
    | (go_at_call 11; refine (HP.out _ _ ls HX7.out (HS.out.ext HX7.out) hN).mono ?_; intro e w8 hA; clear c0 c1 c2 c3 c4 c5 c6; have q := hA.1.blkNo HQ7.out; have c0 : w8.cell? ⟨w.heap.size, 0, none⟩ = some (.int .i64 (k : Nat)) := blk_cell q 0; have c1 : w8.cell? ⟨w.heap.size, 1, none⟩ = some (.int .i64 (s : Nat)) := blk_cell q 1; have c2 : w8.cell? ⟨w.heap.size, 2, none⟩ = some (.int .i64 (n : Nat)) := blk_cell q 2; have c3 : w8.cell? ⟨w.heap.size, 3, none⟩ = some (.int .i64 (b : Nat)) := blk_cell q 3; have c4 : w8.cell? ⟨w.heap.size, 4, none⟩ = some (.int .i64 (c : Nat)) := blk_cell q 4; have c5 : w8.cell? ⟨w.heap.size, 5, none⟩ = some (.int .u64 (m : Nat)) := blk_cell q 5; have c6 : w8.cell? ⟨w.heap.size, 6, none⟩ = some (.slice a L C) := blk_cell q 6; have HQ8 := Lib.hid q; clear q; have hx0 := HX7.out.transNo hA.1; have HX8 := Lib.hid hx0; have HA8 := Lib.hid hA.1; clear hx0; obtain rfl := hA.2.2 HGD.out; clear hA)
    | (go_at_call 12; refine (eqNil _).mono ?_; rintro e w9 ⟨rfl, hx9⟩; have hx09 := HX8.out.transNo hx9; have HX9 := Lib.hid hx09; clear hx9 hx09))
    all_goals
      go_ret
      first
        | exact ⟨rfl, HX9.out⟩
        | exact ⟨rfl, HX1.out⟩
end Go.Proofs.YtlmmdldjfpdcfaaGreatDoor
