/-
  spec.written: the numbers' bytes.
-/
import Derived.Test.YtlmmdldjfpdcfaaGreatDoorM06
import Derived.Test.YtlmmdldjfpdcfaaGreatDoorM05
import Derived.Test.YtlmmdldjfpdcfaaGreatDoorM04
import Derived.Test.YtlmmdldjfpdcfaaGreatDoorM09
namespace Go.Proofs.YtlmmdldjfpdcfaaGreatDoor
open Go.RowKit

/-- A row that grows by append: it lies behind w0's blocks. -/
def Gro (w0 : World) (e : TypeId) (size : Nat) (v : Value) (n : Nat) (xs : List Value) (w : World) : Prop := w.ownsRow w0.heap.size e size v n xs ∧ Ext w0 w No ∧ ∃ a c, v = .slice (some a) n c
theorem Gro.ownBlock_le {w0 : World} {e : TypeId} {size : Nat} {v : Value} {n : Nat} {xs : List Value} {w : World} (h : Gro w0 e size v n xs w) : ∀ k, v.ownBlock = some k → w0.heap.size ≤ k := by
  intro k hk
  obtain ⟨⟨-, h1⟩, -, a, c, rfl⟩ := h
  rcases h1 with ⟨h1, -⟩ | ⟨g, cap, cur, h1, hle, -⟩
  · simp at h1
  · simp only [Value.slice.injEq, Option.some.injEq] at h1
    obtain ⟨rfl, -⟩ := h1
    simp only [Value.ownBlock, Option.some.injEq] at hk
    omega
theorem Gro.extNo {w0 : World} {e : TypeId} {size : Nat} {v : Value} {n : Nat} {xs : List Value} {w w' : World} (h : Gro w0 e size v n xs w) (hx : Ext w w' No) : Gro w0 e size v n xs w' := by
  obtain ⟨⟨h0, h1⟩, h2, h3⟩ := h
  refine ⟨⟨h0, ?_⟩, h2.transNo hx, h3⟩
  rcases h1 with h1 | ⟨g, cap, cur, hv, hle, hb, r⟩
  · exact .inl h1
  · exact .inr ⟨g, cap, cur, hv, hle, hx.blkNo hb, r⟩
theorem Gro.new (w0 w : World) (e : TypeId) (size : Nat) (hx : Ext w0 w No) : Gro w0 e size (.slice (some ⟨w.heap.size, 0, none⟩) 0 0) 0 [] (w.alloc (.cells #[] e)) :=
  ⟨⟨by simp, .inr ⟨w.heap.size, 0, #[], rfl, hx.size, blk_new _ _, Nat.le_refl _, by simp, by simp, by simp⟩⟩, hx.alloc _, _, _, rfl⟩
theorem slice_len {w : World} {base : Nat} {e : TypeId} {size : Nat} {v : Value} {n : Nat} {xs : List Value} (h : w.ownsRow base e size v n xs) (hn : ¬ v = .slice none 0 0) : ∃ a c, v = .slice (some a) n c := by
  rcases h.2 with ⟨h1, -⟩ | ⟨g, cap, cur, h1, -⟩
  · exact (hn h1).elim
  · exact ⟨_, _, h1⟩

theorem wpList_append_gro {ops : Array Oper} {rest : List Oper} {o : Oper} {a : Act} {Q : Exit → Act → World → Prop} (w0 w : World) (hgd : o.guard = none) (s x : Operand)
    (ho : o.op = .call { callee := .builtin .append, args := #[s, x], argTypes := #[23, 23] })
    (v : Value) (n : Nat) (xs : List Value) (hs : a.eval s = v) (hG : Gro w0 5 1 v n xs w) (ad : Addr) (u : Value) (c : Nat) (hx : a.eval x = .slice (some ad) 1 c) (hu : w.cell? (ad.add 0) = some u) (h1 : u.oneCell' = true) (hn : n ≤ 100000)
    (h : ∀ v' w', Gro w0 5 1 v' (n + 1) (xs ++ [u]) w' → wpList Tryz.prog ops Q rest (a.put o.dst v') w') : wpList Tryz.prog ops Q (o :: rest) a w := by
  obtain ⟨i, hi, hz, hs1, hb1⟩ := of_info info5
  have hv : ¬ v = .slice none 0 0 := by obtain ⟨-, -, a, c, rfl⟩ := hG; simp
  refine wpList_append_own (P := Tryz.prog) w hgd s x 23 ho w0.heap.size 5 i (.int .u8 0) 1 1 Tryz.underlying23 hi hz hs1 hb1 rfl (by decide) v n xs hs hG.1 ad 1 c [u] hx (by simp) (fun j z hz => ?_) (fun z hz => ?_) (by simp only [maxLen]; omega) (by omega) hG.2.1.size (fun v' w' k1 k2 k3 => ?_)
  · cases j with
    | zero => simp at hz; subst hz; exact hu
    | succ j => simp at hz
  · simp at hz; subst hz; exact h1
  · refine h v' w' ⟨k1, hG.2.1.grown k2 (fun k hk => .inl (hG.ownBlock_le k hk)), slice_len k1 (fun e => hv (k3.1 e).1)⟩
end Go.Proofs.YtlmmdldjfpdcfaaGreatDoor

/-
  spec.written: the numbers' bytes.
-/
namespace Go.Proofs.YtlmmdldjfpdcfaaGreatDoor
open Go.RowKit

theorem Gro.base {w0 w1 w : World} {e : TypeId} {size : Nat} {v : Value} {n : Nat} {xs : List Value} (h : Gro w1 e size v n xs w) (hx : Ext w0 w1 No) : Gro w0 e size v n xs w := by
  obtain ⟨⟨h0, h1⟩, h2, h3⟩ := h
  refine ⟨⟨h0, ?_⟩, hx.transNo h2, h3⟩
  rcases h1 with h1 | ⟨g, cap, cur, hv, hle, r⟩
  · exact .inl h1
  · exact .inr ⟨g, cap, cur, hv, Nat.le_trans hx.size hle, r⟩
theorem byte_lo (v j : Nat) (hj : j < 8) : lw v / 2 ^ (8 * (j % 8)) % 256 = ((v / 256 ^ j % 256 : Nat) : Int) := by
  unfold lw
  rcases (by omega : j = 0 ∨ j = 1 ∨ j = 2 ∨ j = 3 ∨ j = 4 ∨ j = 5 ∨ j = 6 ∨ j = 7) with rfl | rfl | rfl | rfl | rfl | rfl | rfl | rfl <;> (simp only [Nat.reduceMod, Nat.reduceMul, Int.reducePow, Nat.reducePow]; omega)
theorem byte_hi (v j : Nat) (h8 : 8 ≤ j) (hj : j < 16) : hw v / 2 ^ (8 * (j % 8)) % 256 = ((v / 256 ^ j % 256 : Nat) : Int) := by
  unfold hw
  rcases (by omega : j = 8 ∨ j = 9 ∨ j = 10 ∨ j = 11 ∨ j = 12 ∨ j = 13 ∨ j = 14 ∨ j = 15) with rfl | rfl | rfl | rfl | rfl | rfl | rfl | rfl <;> (simp only [Nat.reduceMod, Nat.reduceMul, Int.reducePow, Nat.reducePow]; omega)
theorem u8s_snoc (l : List Nat) (b : Nat) : u8s (l ++ [b]) = u8s l ++ [.int .u8 (b : Nat)] := by simp [u8s]

set_option maxHeartbeats 2000000 in
theorem specWritten8 {vb vc n r0 r1 x : Nat} {p : Nat} {vs : List Nat} {w : World} {vt : TypeId} (hlen : vs.length = n) (hn : n ≤ 16) (hv : w.heap[vb]? = some (.cells (vecC enc128 vs).toArray vt (0, 0))) :
    Calls Tryz.prog 24 #[fieldV p 8 r0 r1 x, .slice (some ⟨vb, 0, none⟩) n vc] w fun e w' => ∃ v, e = .returned v ∧ Gro w 5 1 v (n * 8) (u8s (flat (bytesL 8) vs)) w' := by
  have Hlen := Lib.hid hlen; clear hlen
  have hfx : Ext w (w.alloc (.cells #[.int .u64 (lw p), .int .u64 (hw p), .int .i64 8, .int .u64 (r0 : Nat), .int .u64 (r1 : Nat), .int .i64 (x : Nat)] 55)) No := (Ext.refl w No).alloc _
  have hfc : (w.alloc (.cells #[.int .u64 (lw p), .int .u64 (hw p), .int .i64 8, .int .u64 (r0 : Nat), .int .u64 (r1 : Nat), .int .i64 (x : Nat)] 55)).cell? ⟨w.heap.size, 2, none⟩ = some (.int .i64 8) := blk_cell (blk_new _ _) 2
  have hvv := hfx.blkNo hv
  have hg0 := Gro.new (w.alloc (.cells #[.int .u64 (lw p), .int .u64 (hw p), .int .i64 8, .int .u64 (r0 : Nat), .int .u64 (r1 : Nat), .int .i64 (x : Nat)] 55)) _ 5 1 (Ext.refl _ No)
  rw [show (w.alloc (.cells #[.int .u64 (lw p), .int .u64 (hw p), .int .i64 8, .int .u64 (r0 : Nat), .int .u64 (r1 : Nat), .int .i64 (x : Nat)] 55)).heap.size = w.heap.size + 1 from by simp] at hg0
  have HG0 := Lib.hid hg0; clear hg0
  have HFX := Lib.hid hfx; clear hfx
  have HFC := Lib.hid hfc; clear hfc
  have HV := Lib.hid hvv; clear hvv hv
  unfold fieldV
  rw [show (((8 : Nat) : Int)) = 8 from rfl]
  go_enter Tryz.func24, Tryz.ntmps24
  go_wp2
  go_loopw [5, 6] (fun v i wr => ∃ k : Nat, k ≤ n ∧ i = .int .i64 k ∧ Hid (Gro (w.alloc (.cells #[.int .u64 (lw p), .int .u64 (hw p), .int .i64 8, .int .u64 (r0 : Nat), .int .u64 (r1 : Nat), .int .i64 (x : Nat)] 55)) 5 1 v (k * 8) (u8s (flat (bytesL 8) (vs.take k))) wr)) (fun _ i _ => n - (intOf i).toNat)
  case atStart => exact ⟨0, by omega, rfl, HG0⟩
  case round =>
    obtain ⟨k, hk, rfl, hR⟩ := hrel
    by_cases hkn : k = n
    · subst hkn
      have c2 := hR.out.2.1.cellNo HFC.out
      go_wp2
      go_ret
      have h := hR.out.base HFX.out
      rw [List.take_of_length_le (by have := Hlen.out; omega)] at h
      exact ⟨_, rfl, h⟩
    · have hlk : k < n := by omega
      have c2 := hR.out.2.1.cellNo HFC.out
      go_wp2
      go_loopw [5, 7] (fun v i w2 => ∃ j : Nat, j ≤ 8 ∧ i = .int .i64 j ∧ Hid (Gro (w.alloc (.cells #[.int .u64 (lw p), .int .u64 (hw p), .int .i64 8, .int .u64 (r0 : Nat), .int .u64 (r1 : Nat), .int .i64 (x : Nat)] 55)) 5 1 v (k * 8 + j) (u8s (flat (bytesL 8) (vs.take k) ++ bytesL j (vs.getD k 0))) w2)) (fun _ i _ => 8 - (intOf i).toNat)
      case atStart =>
        refine ⟨0, by omega, rfl, ?_⟩
        have h := hR.out
        rw [show bytesL 0 (vs.getD k 0) = [] from rfl, List.append_nil]
        exact h
      case round =>
        obtain ⟨j, hj, rfl, hJ⟩ := hrel
        have d2 := hJ.out.2.1.cellNo HFC.out
        have e0 : ∀ o, (_root_.Go.World.alloc _ o).cell? ⟨vb, k * 2, none⟩ = some (.int .u64 (lw (vs.getD k 0))) := fun o => cell_alloc ((blk_cell (hJ.out.2.1.blkNo HV.out) (k * 2)).trans (by rw [List.getElem?_toArray, vecC128_get0 _ _ (by have := Hlen.out; omega)])) o
        have f0 := (blk_cell (hJ.out.2.1.blkNo HV.out) (k * 2)).trans (by rw [List.getElem?_toArray, vecC128_get0 _ _ (by have := Hlen.out; omega)])
        have f1 := (blk_cell (hJ.out.2.1.blkNo HV.out) (k * 2 + 1)).trans (by rw [List.getElem?_toArray, vecC128_get1 _ _ (by have := Hlen.out; omega)])
        clear e0
        by_cases hjn : j = 8
        · subst hjn
          go_wp2
          refine ⟨⟨k + 1, by omega, by go_num, ?_⟩, by simp [intOf]; omega⟩
          have h := hJ.out
          rw [take_snocD _ _ (by have := Hlen.out; omega), flat_snoc, Nat.add_mul, Nat.one_mul]
          exact h
        · have hj8 : (0:Int) ≤ (j : Int) := by omega
          have hk0 : (0:Int) ≤ (k : Int) := by omega
          obtain ⟨x, fj, hxb⟩ : ∃ x : Int, wr.cell? ⟨vb, k * 2 + j / 8, none⟩ = some (.int .u64 x) ∧ Hid (x / 2 ^ (8 * (j % 8)) % 256 = ((vs.getD k 0 / 256 ^ j % 256 : Nat) : Int)) := ⟨_, by rw [show k * 2 + j / 8 = k * 2 from by omega]; exact f0, byte_lo _ _ (by omega)⟩
          clear f0 f1
          go_wp2_with ((with_reducible refine at_dst 36 ?_); refine wpList_append_gro _ _ rfl (.tmp 21) (.tmp 35) rfl u5 (k * 8 + j) _ rfl (hJ.out.extNo ((Ext.refl wr No).alloc _)) ⟨wr.heap.size, 0, none⟩ (.int .u8 (x / 2 ^ (8 * (j % 8)) % 256)) 1 rfl (blk_cell (blk_new _ _) 0) rfl (by omega) ?_; intro v' w' hG; have HG := Lib.hid hG; clear hG)
          refine ⟨⟨j + 1, by omega, by go_num, ?_⟩, by simp [intOf]; omega⟩
          have h := HG.out
          rw [hxb.out] at h
          rw [bytesL_snoc, ← List.append_assoc, u8s_snoc]
          exact h

set_option maxHeartbeats 2000000 in
theorem specWritten16 {vb vc n r0 r1 x : Nat} {p : Nat} {vs : List Nat} {w : World} {vt : TypeId} (hlen : vs.length = n) (hn : n ≤ 16) (hv : w.heap[vb]? = some (.cells (vecC enc128 vs).toArray vt (0, 0))) :
    Calls Tryz.prog 24 #[fieldV p 16 r0 r1 x, .slice (some ⟨vb, 0, none⟩) n vc] w fun e w' => ∃ v, e = .returned v ∧ Gro w 5 1 v (n * 16) (u8s (flat (bytesL 16) vs)) w' := by
  have Hlen := Lib.hid hlen; clear hlen
  have hfx : Ext w (w.alloc (.cells #[.int .u64 (lw p), .int .u64 (hw p), .int .i64 16, .int .u64 (r0 : Nat), .int .u64 (r1 : Nat), .int .i64 (x : Nat)] 55)) No := (Ext.refl w No).alloc _
  have hfc : (w.alloc (.cells #[.int .u64 (lw p), .int .u64 (hw p), .int .i64 16, .int .u64 (r0 : Nat), .int .u64 (r1 : Nat), .int .i64 (x : Nat)] 55)).cell? ⟨w.heap.size, 2, none⟩ = some (.int .i64 16) := blk_cell (blk_new _ _) 2
  have hvv := hfx.blkNo hv
  have hg0 := Gro.new (w.alloc (.cells #[.int .u64 (lw p), .int .u64 (hw p), .int .i64 16, .int .u64 (r0 : Nat), .int .u64 (r1 : Nat), .int .i64 (x : Nat)] 55)) _ 5 1 (Ext.refl _ No)
  rw [show (w.alloc (.cells #[.int .u64 (lw p), .int .u64 (hw p), .int .i64 16, .int .u64 (r0 : Nat), .int .u64 (r1 : Nat), .int .i64 (x : Nat)] 55)).heap.size = w.heap.size + 1 from by simp] at hg0
  have HG0 := Lib.hid hg0; clear hg0
  have HFX := Lib.hid hfx; clear hfx
  have HFC := Lib.hid hfc; clear hfc
  have HV := Lib.hid hvv; clear hvv hv
  unfold fieldV
  rw [show (((16 : Nat) : Int)) = 16 from rfl]
  go_enter Tryz.func24, Tryz.ntmps24
  go_wp2
  go_loopw [5, 6] (fun v i wr => ∃ k : Nat, k ≤ n ∧ i = .int .i64 k ∧ Hid (Gro (w.alloc (.cells #[.int .u64 (lw p), .int .u64 (hw p), .int .i64 16, .int .u64 (r0 : Nat), .int .u64 (r1 : Nat), .int .i64 (x : Nat)] 55)) 5 1 v (k * 16) (u8s (flat (bytesL 16) (vs.take k))) wr)) (fun _ i _ => n - (intOf i).toNat)
  case atStart => exact ⟨0, by omega, rfl, HG0⟩
  case round =>
    obtain ⟨k, hk, rfl, hR⟩ := hrel
    by_cases hkn : k = n
    · subst hkn
      have c2 := hR.out.2.1.cellNo HFC.out
      go_wp2
      go_ret
      have h := hR.out.base HFX.out
      rw [List.take_of_length_le (by have := Hlen.out; omega)] at h
      exact ⟨_, rfl, h⟩
    · have hlk : k < n := by omega
      have c2 := hR.out.2.1.cellNo HFC.out
      go_wp2
      go_loopw [5, 7] (fun v i w2 => ∃ j : Nat, j ≤ 16 ∧ i = .int .i64 j ∧ Hid (Gro (w.alloc (.cells #[.int .u64 (lw p), .int .u64 (hw p), .int .i64 16, .int .u64 (r0 : Nat), .int .u64 (r1 : Nat), .int .i64 (x : Nat)] 55)) 5 1 v (k * 16 + j) (u8s (flat (bytesL 16) (vs.take k) ++ bytesL j (vs.getD k 0))) w2)) (fun _ i _ => 16 - (intOf i).toNat)
      case atStart =>
        refine ⟨0, by omega, rfl, ?_⟩
        have h := hR.out
        rw [show bytesL 0 (vs.getD k 0) = [] from rfl, List.append_nil]
        exact h
      case round =>
        obtain ⟨j, hj, rfl, hJ⟩ := hrel
        have d2 := hJ.out.2.1.cellNo HFC.out
        have e0 : ∀ o, (_root_.Go.World.alloc _ o).cell? ⟨vb, k * 2, none⟩ = some (.int .u64 (lw (vs.getD k 0))) := fun o => cell_alloc ((blk_cell (hJ.out.2.1.blkNo HV.out) (k * 2)).trans (by rw [List.getElem?_toArray, vecC128_get0 _ _ (by have := Hlen.out; omega)])) o
        have f0 := (blk_cell (hJ.out.2.1.blkNo HV.out) (k * 2)).trans (by rw [List.getElem?_toArray, vecC128_get0 _ _ (by have := Hlen.out; omega)])
        have f1 := (blk_cell (hJ.out.2.1.blkNo HV.out) (k * 2 + 1)).trans (by rw [List.getElem?_toArray, vecC128_get1 _ _ (by have := Hlen.out; omega)])
        clear e0
        by_cases hjn : j = 16
        · subst hjn
          go_wp2
          refine ⟨⟨k + 1, by omega, by go_num, ?_⟩, by simp [intOf]; omega⟩
          have h := hJ.out
          rw [take_snocD _ _ (by have := Hlen.out; omega), flat_snoc, Nat.add_mul, Nat.one_mul]
          exact h
        · have hj8 : (0:Int) ≤ (j : Int) := by omega
          have hk0 : (0:Int) ≤ (k : Int) := by omega
          obtain ⟨x, fj, hxb⟩ : ∃ x : Int, wr.cell? ⟨vb, k * 2 + j / 8, none⟩ = some (.int .u64 x) ∧ Hid (x / 2 ^ (8 * (j % 8)) % 256 = ((vs.getD k 0 / 256 ^ j % 256 : Nat) : Int)) := by
            by_cases h8 : j < 8
            · exact ⟨_, by rw [show k * 2 + j / 8 = k * 2 from by omega]; exact f0, byte_lo _ _ h8⟩
            · exact ⟨_, by rw [show k * 2 + j / 8 = k * 2 + 1 from by omega]; exact f1, byte_hi _ _ (by omega) (by omega)⟩
          clear f0 f1
          go_wp2_with ((with_reducible refine at_dst 36 ?_); refine wpList_append_gro _ _ rfl (.tmp 21) (.tmp 35) rfl u5 (k * 16 + j) _ rfl (hJ.out.extNo ((Ext.refl wr No).alloc _)) ⟨wr.heap.size, 0, none⟩ (.int .u8 (x / 2 ^ (8 * (j % 8)) % 256)) 1 rfl (blk_cell (blk_new _ _) 0) rfl (by omega) ?_; intro v' w' hG; have HG := Lib.hid hG; clear hG)
          refine ⟨⟨j + 1, by omega, by go_num, ?_⟩, by simp [intOf]; omega⟩
          have h := HG.out
          rw [hxb.out] at h
          rw [bytesL_snoc, ← List.append_assoc, u8s_snoc]
          exact h
end Go.Proofs.YtlmmdldjfpdcfaaGreatDoor
