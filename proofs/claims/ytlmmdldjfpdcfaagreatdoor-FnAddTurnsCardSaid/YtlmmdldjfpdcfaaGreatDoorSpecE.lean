/-
  spec.circuitOf.
-/
import Derived.Test.YtlmmdldjfpdcfaaGreatDoorM06
import Derived.Test.YtlmmdldjfpdcfaaGreatDoorM14
import Derived.Test.YtlmmdldjfpdcfaaGreatDoorM11
import Derived.Test.YtlmmdldjfpdcfaaGreatDoorM16
import Derived.Deep.CutRange
namespace Go.Proofs.YtlmmdldjfpdcfaaGreatDoor
open Go.RowKit

theorem blk_new3' (w : World) (A B C : Obj) : (((w.alloc A).alloc B).drew.alloc C).heap[w.heap.size + 1 + 1]? = some C := by
  have h := blk_new ((w.alloc A).alloc B).drew C
  have e : ((w.alloc A).alloc B).drew.heap.size = w.heap.size + 1 + 1 := by simp
  rw [e] at h
  exact h
theorem Big.other {b t N : Nat} {w : World} (h : Big b t N w) {b' : Nat} (hne : ¬ b' = b) (i : Nat) (v : Value) : Big b t N (w.setCell ⟨b', i, none⟩ v) := by
  obtain ⟨cur, hb, hs⟩ := h
  exact ⟨cur, blk_set_ne hb (fun e => hne e.symm) v, hs⟩
theorem Ext.transNew {a b c : World} {q : Nat} (h : Ext a b No) (k : Ext b c (fun k => k = q)) (hq : a.heap.size ≤ q) : Ext a c No :=
  h.trans k (fun i hi e => by omega)
theorem info57 : (Tryz.prog.info? 57).map (·.size) = some 21 := by kernel_rfl
/-- What circuitOf answers: the field and the length of the output lie in it. -/
def CircV (f0 f1 f2 f3 f4 f5 : Int) (out : Nat) (e : Ending) : Prop := ∃ cs : Array Value, e = .returned (.agg cs) ∧ cs.size = 21 ∧ cs.all (·.oneCell') = true ∧
  cs[7]? = some (.int .u64 f0) ∧ cs[8]? = some (.int .u64 f1) ∧ cs[9]? = some (.int .i64 f2) ∧ cs[10]? = some (.int .u64 f3) ∧ cs[11]? = some (.int .u64 f4) ∧ cs[12]? = some (.int .i64 f5) ∧ cs[15]? = some (.int .i64 (out : Nat))
theorem stored {w1 : World} {B t : Nat} {cur : Array Value} (h : w1.heap[B]? = some (.cells cur t (0, 0))) {vs : List Value} (hl : vs.length = cur.size) : (w1.setCells B 0 vs).heap[B]? = some (.cells vs.toArray t (0, 0)) ∧ Ext w1 (w1.setCells B 0 vs) (fun k => k = B) := by
  have hf := setCells_facts vs 0 cur w1 h
  rw [putL_all _ _ hl] at hf
  exact hf
/-- The parameters lie in block q. -/
def ParAt (q k s n b c m : Nat) (v : Value) (w' : World) : Prop := w'.cell? ⟨q, 0, none⟩ = some (.int .i64 (k : Nat)) ∧ w'.cell? ⟨q, 1, none⟩ = some (.int .i64 (s : Nat)) ∧ w'.cell? ⟨q, 2, none⟩ = some (.int .i64 (n : Nat)) ∧ w'.cell? ⟨q, 3, none⟩ = some (.int .i64 (b : Nat)) ∧ w'.cell? ⟨q, 4, none⟩ = some (.int .i64 (c : Nat)) ∧ w'.cell? ⟨q, 5, none⟩ = some (.int .u64 (m : Nat)) ∧ w'.cell? ⟨q, 6, none⟩ = some (v)

set_option maxRecDepth 100000 in
set_option maxHeartbeats 8000000 in
theorem circuitG {k s n b c m L C : Nat} {a : Option Addr} {f0 f1 f2 f3 f4 f5 : Int} (hf : ∀ w : World, Calls Tryz.prog 38 #[.int .i64 (k : Nat)] w fun e w' => e = .returned (.agg #[.int .u64 f0, .int .u64 f1, .int .i64 f2, .int .u64 f3, .int .u64 f4, .int .i64 f5]) ∧ Ext w w' No)
    (hn : n ≤ 16) (hb : b ≤ 80) (hc : c ≤ 16) (hm : m < 18446744073709551616) (hk : k = 1 ∨ (k = 2 ∧ m < 9223372036854775808) ∨ (k = 3 ∧ 0 < c) ∨ (k = 4 ∧ 0 < c) ∨ (k = 5 ∧ 0 < c)) (w : World) :
    Calls Tryz.prog 21 #[parV k s n b c m (.slice a L C)] w fun e w' => CircV f0 f1 f2 f3 f4 f5 (if k ≤ 2 then 1 else n) e ∧ Ext w w' No := by
  have hT : ∀ w', Ext ((w.alloc (.cells #[.int .i64 (k : Nat), .int .i64 (s : Nat), .int .i64 (n : Nat), .int .i64 (b : Nat), .int .i64 (c : Nat), .int .u64 (m : Nat), .slice a L C] 25)).alloc (.cells #[.int .i64 0, .int .i64 0, .int .i64 0, .int .i64 0, .int .i64 0, .int .u64 0, .slice none 0 0, .int .u64 0, .int .u64 0, .int .i64 0, .int .u64 0, .int .u64 0, .int .i64 0, .int .i64 0, .int .i64 0, .int .i64 0, .int .i64 0, .int .i64 0, .int .i64 0, .int .i64 0, .int .u64 0] 57)) w' No → ParAt w.heap.size k s n b c m (.slice a L C) w' := fun w' hx => ⟨blk_cell (hx.blkNo (blk_alloc (blk_new _ _) _)) 0, blk_cell (hx.blkNo (blk_alloc (blk_new _ _) _)) 1, blk_cell (hx.blkNo (blk_alloc (blk_new _ _) _)) 2, blk_cell (hx.blkNo (blk_alloc (blk_new _ _) _)) 3, blk_cell (hx.blkNo (blk_alloc (blk_new _ _) _)) 4, blk_cell (hx.blkNo (blk_alloc (blk_new _ _) _)) 5, blk_cell (hx.blkNo (blk_alloc (blk_new _ _) _)) 6⟩
  have HT := Lib.hid hT; clear hT
  have HF := Lib.hid hf; clear hf
  have HK := Lib.hid hk; clear hk
  unfold parV
  go_enter Tryz.func21, Tryz.ntmps21
  go_upto_region 1 with fail
  go_cut [3] from 5 to 9 (fun v wx => ∃ B : Nat, v = .pointer (some ⟨B, 0, none⟩) ∧ Hid (w.heap.size + 1 + 1 ≤ B ∧ Ext ((w.alloc (.cells #[.int .i64 (k : Nat), .int .i64 (s : Nat), .int .i64 (n : Nat), .int .i64 (b : Nat), .int .i64 (c : Nat), .int .u64 (m : Nat), .slice a L C] 25)).alloc (.cells #[.int .i64 0, .int .i64 0, .int .i64 0, .int .i64 0, .int .i64 0, .int .u64 0, .slice none 0 0, .int .u64 0, .int .u64 0, .int .i64 0, .int .u64 0, .int .u64 0, .int .i64 0, .int .i64 0, .int .i64 0, .int .i64 0, .int .i64 0, .int .i64 0, .int .i64 0, .int .i64 0, .int .u64 0] 57)) wx No ∧ wx.heap[B]? = some (.cells #[.int .i64 (k : Nat), .int .i64 (s : Nat), .int .i64 (n : Nat), .int .i64 (b : Nat), .int .i64 (c : Nat), .int .u64 (m : Nat), .slice a L C, .int .u64 f0, .int .u64 f1, .int .i64 f2, .int .u64 f3, .int .u64 f4, .int .i64 f5, .int .i64 1, .int .i64 0, .int .i64 1, .int .i64 1, .int .i64 2, .int .i64 1, .int .i64 0, .int .u64 0] 57 (0, 0))))
  case first =>
    refine wp_region_noPanic ?_
    refine wp_region_held_drew (S := (fun w' => ParAt w.heap.size k s n b c m (.slice a L C) w')) (by kernel_rfl) (HT.out _ (Ext.refl _ _).drew) (fun hHeld => ?_)
    refine wpAnyH_take (i := 0) (oi := { dst := some 5, op := Op.load 25 (.tmp 1), type := 25, pos := "circuit.go:49", after := #[], guard := none }) (v := .agg #[.int .i64 (k : Nat), .int .i64 (s : Nat), .int .i64 (n : Nat), .int .i64 (b : Nat), .int .i64 (c : Nat), .int .u64 (m : Nat), .slice a L C]) rfl (by kernel_rfl) (by kernel_rfl) (by kernel_rfl) (fun _ _ _ h => h) (Or.inl ⟨by rfl, ?_⟩) (by assumption) ?_
    · intro w hSw
      obtain ⟨q0, q1, q2, q3, q4, q5, q6⟩ := hSw
      go_simp
    (try simp only [Act.put, List.setIfInBounds_toArray, List.set_cons_zero, List.set_cons_succ])
    refine wpAnyH_take (i := 1) (oi := { dst := some 6, op := Op.fieldAddr 25 (.tmp 1) 0, type := 0, pos := "circuit.go:49", after := #[], guard := none }) (v := .pointer (some ⟨w.heap.size, 0, none⟩)) rfl (by kernel_rfl) (by kernel_rfl) (by kernel_rfl) (fun _ _ _ h => h) (Or.inl ⟨by rfl, ?_⟩) (by assumption) ?_
    · intro w hSw
      obtain ⟨q0, q1, q2, q3, q4, q5, q6⟩ := hSw
      go_simp
    (try simp only [Act.put, List.setIfInBounds_toArray, List.set_cons_zero, List.set_cons_succ])
    refine wpAnyH_take (i := 2) (oi := { dst := some 7, op := Op.load 3 (.tmp 6), type := 3, pos := "circuit.go:49", after := #[{ on := 1, ground := Ground.data }], guard := none }) (v := .int .i64 (k : Nat)) rfl (by kernel_rfl) (by kernel_rfl) (by kernel_rfl) (fun _ _ _ h => h) (Or.inl ⟨by rfl, ?_⟩) (by assumption) ?_
    · intro w hSw
      obtain ⟨q0, q1, q2, q3, q4, q5, q6⟩ := hSw
      go_simp
    (try simp only [Act.put, List.setIfInBounds_toArray, List.set_cons_zero, List.set_cons_succ])
    refine wpAnyH_ready (rs := [3, 5]) (by kernel_rfl) (by simp) ?_
    refine AllReadyH.cons (o := { dst := some 8, op := Op.call { callee := Callee.value (.func 38), args := #[.tmp 7], argTypes := #[3] }, type := 55, pos := "circuit.go:49", after := #[{ on := 2, ground := Ground.data }], guard := none }) rfl (fun K' hK' => ?_) ?_
    · go_simp
      go_at_call 38
      refine (HF.out _).mono ?_
      rintro e w1 ⟨rfl, hx⟩
      have hE1 := ext_undrew hx
      dsimp only
      refine hK'.out _ _ (HT.out _ hE1) (fun hHeld => ?_)
      clear hK' K'
      (try simp only [Act.put, List.setIfInBounds_toArray, List.set_cons_zero, List.set_cons_succ])
      refine wpAnyH_take (i := 4) (oi := { dst := some 9, op := Op.build 57 #[(0, .tmp 5), (1, .tmp 8), (2, .const (.int .i64 1)), (4, .const (.int .i64 1)), (5, .const (.int .i64 1)), (6, .const (.int .i64 2)), (7, .const (.int .i64 1))], type := 57, pos := "circuit.go:49", after := #[{ on := 0, ground := Ground.data }, { on := 3, ground := Ground.data }], guard := none }) (v := .agg #[.int .i64 (k : Nat), .int .i64 (s : Nat), .int .i64 (n : Nat), .int .i64 (b : Nat), .int .i64 (c : Nat), .int .u64 (m : Nat), .slice a L C, .int .u64 f0, .int .u64 f1, .int .i64 f2, .int .u64 f3, .int .u64 f4, .int .i64 f5, .int .i64 1, .int .i64 0, .int .i64 1, .int .i64 1, .int .i64 2, .int .i64 1, .int .i64 0, .int .u64 0]) rfl (by kernel_rfl) (by kernel_rfl) (by kernel_rfl) (fun _ _ _ h => h) (Or.inl ⟨by rfl, ?_⟩) (by assumption) ?_
      · intro w hSw
        obtain ⟨q0, q1, q2, q3, q4, q5, q6⟩ := hSw
        go_simp
      (try simp only [Act.put, List.setIfInBounds_toArray, List.set_cons_zero, List.set_cons_succ])
      refine wpAnyH_ready (rs := [5]) (by kernel_rfl) (by simp) ?_
      refine AllReadyH.cons (o := { dst := some 3, op := Op.alloc 57, type := 0, pos := "circuit.go:49", after := #[], guard := none }) rfl (fun K' hK' => ?_) ?_
      · go_simp
        refine hK'.out _ _ (HT.out _ (hE1.alloc _)) (fun hHeld => ?_)
        clear hK' K'
        (try simp only [Act.put, List.setIfInBounds_toArray, List.set_cons_zero, List.set_cons_succ])
        refine wpAnyH_ready (rs := [6]) (by kernel_rfl) (by simp) ?_
        refine AllReadyH.cons (o := { dst := none, op := Op.store 57 (.tmp 3) (.tmp 9), type := 0, pos := "circuit.go:49", after := #[{ on := 5, ground := Ground.data }, { on := 4, ground := Ground.data }, { on := 3, ground := Ground.chain }, { on := 0, ground := Ground.phase }, { on := 1, ground := Ground.phase }, { on := 2, ground := Ground.phase }, { on := 3, ground := Ground.phase }, { on := 4, ground := Ground.phase }, { on := 5, ground := Ground.phase }], guard := none }) rfl (fun K' hK' => ?_) ?_
        · rw [if_pos (by rfl)]
          refine wp_store_mid 57 (.tmp 3) (.tmp 9) rfl (w1.heap.size) 0 #[.int .i64 (k : Nat), .int .i64 (s : Nat), .int .i64 (n : Nat), .int .i64 (b : Nat), .int .i64 (c : Nat), .int .u64 (m : Nat), .slice a L C, .int .u64 f0, .int .u64 f1, .int .i64 f2, .int .u64 f3, .int .u64 f4, .int .i64 f5, .int .i64 1, .int .i64 0, .int .i64 1, .int .i64 1, .int .i64 2, .int .i64 1, .int .i64 0, .int .u64 0] rfl rfl (by intro j hj; have h := blk_new w1 (.cells #[.int .i64 0, .int .i64 0, .int .i64 0, .int .i64 0, .int .i64 0, .int .u64 0, .slice none 0 0, .int .u64 0, .int .u64 0, .int .i64 0, .int .u64 0, .int .u64 0, .int .i64 0, .int .i64 0, .int .i64 0, .int .i64 0, .int .i64 0, .int .i64 0, .int .i64 0, .int .i64 0, .int .u64 0] 57); exact ⟨by rw [Nat.zero_add, blk_cell h, Array.getElem?_eq_getElem (by simpa using hj)]; rfl, blk_frz h _⟩) info57 (by simp [Value.oneCell']) ?_
          (try simp only [Act.put])
          obtain ⟨sb, sx⟩ := stored (blk_new w1 (.cells #[.int .i64 0, .int .i64 0, .int .i64 0, .int .i64 0, .int .i64 0, .int .u64 0, .slice none 0 0, .int .u64 0, .int .u64 0, .int .i64 0, .int .u64 0, .int .u64 0, .int .i64 0, .int .i64 0, .int .i64 0, .int .i64 0, .int .i64 0, .int .i64 0, .int .i64 0, .int .i64 0, .int .u64 0] 57)) (vs := [.int .i64 (k : Nat), .int .i64 (s : Nat), .int .i64 (n : Nat), .int .i64 (b : Nat), .int .i64 (c : Nat), .int .u64 (m : Nat), .slice a L C, .int .u64 f0, .int .u64 f1, .int .i64 f2, .int .u64 f3, .int .u64 f4, .int .i64 f5, .int .i64 1, .int .i64 0, .int .i64 1, .int .i64 1, .int .i64 2, .int .i64 1, .int .i64 0, .int .u64 0]) rfl
          have hE2 := Ext.transNew (hE1.alloc _) sx (hE1.size)
          refine hK'.out _ _ (HT.out _ hE2) (fun hHeld => ?_)
          clear hK' K'
          (try simp only [Act.put, List.setIfInBounds_toArray, List.set_cons_zero, List.set_cons_succ])
          refine wpAnyH_done (by kernel_rfl) ?_ _
          refine NoPanic.normal ?_
          go_wp2_with fail
          go_meet
          exact ⟨_, rfl, by have := hE1.size; simp at this; omega, hE2, sb⟩
        exact AllReadyH.nil
      exact AllReadyH.nil
    refine AllReadyH.cons (o := { dst := some 3, op := Op.alloc 57, type := 0, pos := "circuit.go:49", after := #[], guard := none }) rfl (fun K' hK' => ?_) ?_
    · go_simp
      refine hK'.out _ _ (HT.out _ (((Ext.refl _ _).drew).alloc _)) (fun hHeld => ?_)
      clear hK' K'
      (try simp only [Act.put, List.setIfInBounds_toArray, List.set_cons_zero, List.set_cons_succ])
      refine wpAnyH_ready (rs := [3]) (by kernel_rfl) (by simp) ?_
      refine AllReadyH.cons (o := { dst := some 8, op := Op.call { callee := Callee.value (.func 38), args := #[.tmp 7], argTypes := #[3] }, type := 55, pos := "circuit.go:49", after := #[{ on := 2, ground := Ground.data }], guard := none }) rfl (fun K' hK' => ?_) ?_
      · go_simp
        go_at_call 38
        refine (HF.out _).mono ?_
        rintro e w1 ⟨rfl, hx⟩
        have hz := hx.blkNo (blk_new3' w _ _ _)
        have hE1 := (((Ext.refl ((w.alloc (.cells #[.int .i64 (k : Nat), .int .i64 (s : Nat), .int .i64 (n : Nat), .int .i64 (b : Nat), .int .i64 (c : Nat), .int .u64 (m : Nat), .slice a L C] 25)).alloc (.cells #[.int .i64 0, .int .i64 0, .int .i64 0, .int .i64 0, .int .i64 0, .int .u64 0, .slice none 0 0, .int .u64 0, .int .u64 0, .int .i64 0, .int .u64 0, .int .u64 0, .int .i64 0, .int .i64 0, .int .i64 0, .int .i64 0, .int .i64 0, .int .i64 0, .int .i64 0, .int .i64 0, .int .u64 0] 57)) No).drew).alloc (.cells #[.int .i64 0, .int .i64 0, .int .i64 0, .int .i64 0, .int .i64 0, .int .u64 0, .slice none 0 0, .int .u64 0, .int .u64 0, .int .i64 0, .int .u64 0, .int .u64 0, .int .i64 0, .int .i64 0, .int .i64 0, .int .i64 0, .int .i64 0, .int .i64 0, .int .i64 0, .int .i64 0, .int .u64 0] 57)).transNo hx
        dsimp only
        refine hK'.out _ _ (HT.out _ hE1) (fun hHeld => ?_)
        clear hK' K'
        (try simp only [Act.put, List.setIfInBounds_toArray, List.set_cons_zero, List.set_cons_succ])
        refine wpAnyH_take (i := 4) (oi := { dst := some 9, op := Op.build 57 #[(0, .tmp 5), (1, .tmp 8), (2, .const (.int .i64 1)), (4, .const (.int .i64 1)), (5, .const (.int .i64 1)), (6, .const (.int .i64 2)), (7, .const (.int .i64 1))], type := 57, pos := "circuit.go:49", after := #[{ on := 0, ground := Ground.data }, { on := 3, ground := Ground.data }], guard := none }) (v := .agg #[.int .i64 (k : Nat), .int .i64 (s : Nat), .int .i64 (n : Nat), .int .i64 (b : Nat), .int .i64 (c : Nat), .int .u64 (m : Nat), .slice a L C, .int .u64 f0, .int .u64 f1, .int .i64 f2, .int .u64 f3, .int .u64 f4, .int .i64 f5, .int .i64 1, .int .i64 0, .int .i64 1, .int .i64 1, .int .i64 2, .int .i64 1, .int .i64 0, .int .u64 0]) rfl (by kernel_rfl) (by kernel_rfl) (by kernel_rfl) (fun _ _ _ h => h) (Or.inl ⟨by rfl, ?_⟩) (by assumption) ?_
        · intro w hSw
          obtain ⟨q0, q1, q2, q3, q4, q5, q6⟩ := hSw
          go_simp
        (try simp only [Act.put, List.setIfInBounds_toArray, List.set_cons_zero, List.set_cons_succ])
        refine wpAnyH_ready (rs := [6]) (by kernel_rfl) (by simp) ?_
        refine AllReadyH.cons (o := { dst := none, op := Op.store 57 (.tmp 3) (.tmp 9), type := 0, pos := "circuit.go:49", after := #[{ on := 5, ground := Ground.data }, { on := 4, ground := Ground.data }, { on := 3, ground := Ground.chain }, { on := 0, ground := Ground.phase }, { on := 1, ground := Ground.phase }, { on := 2, ground := Ground.phase }, { on := 3, ground := Ground.phase }, { on := 4, ground := Ground.phase }, { on := 5, ground := Ground.phase }], guard := none }) rfl (fun K' hK' => ?_) ?_
        · rw [if_pos (by rfl)]
          refine wp_store_mid 57 (.tmp 3) (.tmp 9) rfl (w.heap.size + 1 + 1) 0 #[.int .i64 (k : Nat), .int .i64 (s : Nat), .int .i64 (n : Nat), .int .i64 (b : Nat), .int .i64 (c : Nat), .int .u64 (m : Nat), .slice a L C, .int .u64 f0, .int .u64 f1, .int .i64 f2, .int .u64 f3, .int .u64 f4, .int .i64 f5, .int .i64 1, .int .i64 0, .int .i64 1, .int .i64 1, .int .i64 2, .int .i64 1, .int .i64 0, .int .u64 0] rfl rfl (by intro j hj; exact ⟨by rw [Nat.zero_add, blk_cell hz, Array.getElem?_eq_getElem (by simpa using hj)]; rfl, blk_frz hz _⟩) info57 (by simp [Value.oneCell']) ?_
          (try simp only [Act.put])
          obtain ⟨sb, sx⟩ := stored hz (vs := [.int .i64 (k : Nat), .int .i64 (s : Nat), .int .i64 (n : Nat), .int .i64 (b : Nat), .int .i64 (c : Nat), .int .u64 (m : Nat), .slice a L C, .int .u64 f0, .int .u64 f1, .int .i64 f2, .int .u64 f3, .int .u64 f4, .int .i64 f5, .int .i64 1, .int .i64 0, .int .i64 1, .int .i64 1, .int .i64 2, .int .i64 1, .int .i64 0, .int .u64 0]) rfl
          have hE2 := Ext.transNew hE1 sx (by simp)
          refine hK'.out _ _ (HT.out _ hE2) (fun hHeld => ?_)
          clear hK' K'
          (try simp only [Act.put, List.setIfInBounds_toArray, List.set_cons_zero, List.set_cons_succ])
          refine wpAnyH_done (by kernel_rfl) ?_ _
          refine NoPanic.normal ?_
          go_wp2_with fail
          go_meet
          exact ⟨_, rfl, by have := hE1.size; simp at this; omega, hE2, sb⟩
        exact AllReadyH.nil
      exact AllReadyH.nil
    exact AllReadyH.nil
  case rest =>
    obtain ⟨B, rfl, hB⟩ := hcut
    obtain ⟨hle, hx, hb0⟩ := hB.out
    obtain ⟨p0, p1, p2, p3, p4, p5, p6⟩ := HT.out _ hx
    have hwc := (((Ext.refl w No).alloc _).alloc _).transNo hx
    have HWC := Lib.hid hwc; clear hwc
    have hbr := (Big.new (t := 57) (N := 21) (w.alloc (.cells #[.int .i64 (k : Nat), .int .i64 (s : Nat), .int .i64 (n : Nat), .int .i64 (b : Nat), .int .i64 (c : Nat), .int .u64 (m : Nat), .slice a L C] 25)) #[.int .i64 0, .int .i64 0, .int .i64 0, .int .i64 0, .int .i64 0, .int .u64 0, .slice none 0 0, .int .u64 0, .int .u64 0, .int .i64 0, .int .u64 0, .int .u64 0, .int .i64 0, .int .i64 0, .int .i64 0, .int .i64 0, .int .i64 0, .int .i64 0, .int .i64 0, .int .i64 0, .int .u64 0] rfl (by simp [Value.oneCell'])).extNo hx
    rw [size_alloc] at hbr
    have HBR := Lib.hid hbr; clear hbr
    have hbb : Big B 57 21 wc := ⟨_, hb0, rfl, by simp [Value.oneCell']⟩
    have HBB := Lib.hid hbb; clear hbb
    have hB0 : ¬ B = w.heap.size := by omega
    have hB0' : ¬ w.heap.size = B := by omega
    have hB1 : ¬ B = w.heap.size + 1 := by omega
    have hBw : w.heap.size ≤ B := by omega
    have b7 : wc.cell? ⟨B, 7, none⟩ = some (.int .u64 f0) := blk_cell hb0 7
    have b8 : wc.cell? ⟨B, 8, none⟩ = some (.int .u64 f1) := blk_cell hb0 8
    have b9 : wc.cell? ⟨B, 9, none⟩ = some (.int .i64 f2) := blk_cell hb0 9
    have b10 : wc.cell? ⟨B, 10, none⟩ = some (.int .u64 f3) := blk_cell hb0 10
    have b11 : wc.cell? ⟨B, 11, none⟩ = some (.int .u64 f4) := blk_cell hb0 11
    have b12 : wc.cell? ⟨B, 12, none⟩ = some (.int .i64 f5) := blk_cell hb0 12
    have b13 : wc.cell? ⟨B, 13, none⟩ = some (.int .i64 1) := blk_cell hb0 13
    have b14 : wc.cell? ⟨B, 14, none⟩ = some (.int .i64 0) := blk_cell hb0 14
    have b15 : wc.cell? ⟨B, 15, none⟩ = some (.int .i64 1) := blk_cell hb0 15
    have b16 : wc.cell? ⟨B, 16, none⟩ = some (.int .i64 1) := blk_cell hb0 16
    have b17 : wc.cell? ⟨B, 17, none⟩ = some (.int .i64 2) := blk_cell hb0 17
    have b18 : wc.cell? ⟨B, 18, none⟩ = some (.int .i64 1) := blk_cell hb0 18
    have b19 : wc.cell? ⟨B, 19, none⟩ = some (.int .i64 0) := blk_cell hb0 19
    have b20 : wc.cell? ⟨B, 20, none⟩ = some (.int .u64 0) := blk_cell hb0 20
    have g13 := blk_frz hb0 13
    have g14 := blk_frz hb0 14
    have g15 := blk_frz hb0 15
    have g16 := blk_frz hb0 16
    have g17 := blk_frz hb0 17
    have g18 := blk_frz hb0 18
    have g19 := blk_frz hb0 19
    have g20 := blk_frz hb0 20
    clear hb0 hx hle hB
    clear HT HF
    rcases HK.out with rfl | ⟨rfl, hm2⟩ | ⟨rfl, hc0⟩ | ⟨rfl, hc0⟩ | ⟨rfl, hc0⟩
    · clear HK
      go_wp2_with (first
        | ((with_reducible refine at_dst 96 ?_); refine wpList_load_big _ rfl 57 (.tmp 3) rfl B 0 57 21 21 rfl (by repeat (first | with_reducible exact HBB.out | with_reducible refine Big.set ?_ _ rfl)) (by decide) Tryz.underlying57 rfl info57 ?_; intro cs hcs hca hcc; have k7 : cs[7]? = some (.int .u64 f0) := (hcc 7 (by decide)).trans (by simp [go_sem, b7]); have k8 : cs[8]? = some (.int .u64 f1) := (hcc 8 (by decide)).trans (by simp [go_sem, b8]); have k9 : cs[9]? = some (.int .i64 f2) := (hcc 9 (by decide)).trans (by simp [go_sem, b9]); have k10 : cs[10]? = some (.int .u64 f3) := (hcc 10 (by decide)).trans (by simp [go_sem, b10]); have k11 : cs[11]? = some (.int .u64 f4) := (hcc 11 (by decide)).trans (by simp [go_sem, b11]); have k12 : cs[12]? = some (.int .i64 f5) := (hcc 12 (by decide)).trans (by simp [go_sem, b12]); have k15 : cs[15]? = some (.int .i64 1) := (hcc 15 (by decide)).trans (by simp [go_sem, b15]); clear hcc; have HCS := Lib.hid hcs; clear hcs; have HCA := Lib.hid hca; clear hca)
        | ((with_reducible refine at_store 2 ?_); refine wpList_store_big _ rfl 57 (.tmp 2) (.tmp 96) rfl (w.heap.size + 1) 0 57 21 rfl cs rfl (by repeat (first | with_reducible exact HBR.out | with_reducible refine Big.other ?_ hB1 _ _)) (by rw [HCS.out]; decide) (by rw [HCS.out]; exact info57) HCA.out ?_; intro w9 hx9 hB9 hc9 _; have hE9 : Ext w w9 No := Ext.transNew (by repeat (first | with_reducible exact HWC.out | with_reducible refine Ext.set ?_ (.inl hBw) _)) hx9 (by omega); clear hx9; have HB9 := Lib.hid hB9; clear hB9; have HC9 := Lib.hid hc9; clear hc9))
      refine bodyPost_big (fn := Tryz.f21) rfl rfl rfl HB9.out Tryz.underlying57 rfl info57 (fun es h1 h2 h3 => ⟨⟨es, rfl, h1, h2, (h3 7 (by decide)).trans ((by have h := HC9.out 7 (by rw [HCS.out]; decide); simpa using h : _ = cs[7]?).trans k7), (h3 8 (by decide)).trans ((by have h := HC9.out 8 (by rw [HCS.out]; decide); simpa using h : _ = cs[8]?).trans k8), (h3 9 (by decide)).trans ((by have h := HC9.out 9 (by rw [HCS.out]; decide); simpa using h : _ = cs[9]?).trans k9), (h3 10 (by decide)).trans ((by have h := HC9.out 10 (by rw [HCS.out]; decide); simpa using h : _ = cs[10]?).trans k10), (h3 11 (by decide)).trans ((by have h := HC9.out 11 (by rw [HCS.out]; decide); simpa using h : _ = cs[11]?).trans k11), (h3 12 (by decide)).trans ((by have h := HC9.out 12 (by rw [HCS.out]; decide); simpa using h : _ = cs[12]?).trans k12), (h3 15 (by decide)).trans ((by have h := HC9.out 15 (by rw [HCS.out]; decide); simpa using h : _ = cs[15]?).trans k15)⟩, hE9⟩)
    · clear HK
      go_wp2_with (first
        | (go_at_call 39; refine (len64 m hm _).mono ?_; rintro e w4 ⟨⟨kk, rfl, -, hk64, hk63⟩, rfl⟩; have hk63 := hk63 hm2)
        | ((with_reducible refine at_dst 49 ?_); refine wpList_load_big _ rfl 57 (.tmp 3) rfl B 0 57 21 21 rfl (by repeat (first | with_reducible exact HBB.out | with_reducible refine Big.set ?_ _ rfl)) (by decide) Tryz.underlying57 rfl info57 ?_; intro cs hcs hca hcc; have k7 : cs[7]? = some (.int .u64 f0) := (hcc 7 (by decide)).trans (by simp [go_sem, b7]); have k8 : cs[8]? = some (.int .u64 f1) := (hcc 8 (by decide)).trans (by simp [go_sem, b8]); have k9 : cs[9]? = some (.int .i64 f2) := (hcc 9 (by decide)).trans (by simp [go_sem, b9]); have k10 : cs[10]? = some (.int .u64 f3) := (hcc 10 (by decide)).trans (by simp [go_sem, b10]); have k11 : cs[11]? = some (.int .u64 f4) := (hcc 11 (by decide)).trans (by simp [go_sem, b11]); have k12 : cs[12]? = some (.int .i64 f5) := (hcc 12 (by decide)).trans (by simp [go_sem, b12]); have k15 : cs[15]? = some (.int .i64 1) := (hcc 15 (by decide)).trans (by simp [go_sem, b15]); clear hcc; have HCS := Lib.hid hcs; clear hcs; have HCA := Lib.hid hca; clear hca)
        | ((with_reducible refine at_store 2 ?_); refine wpList_store_big _ rfl 57 (.tmp 2) (.tmp 49) rfl (w.heap.size + 1) 0 57 21 rfl cs rfl (by repeat (first | with_reducible exact HBR.out | with_reducible refine Big.other ?_ hB1 _ _)) (by rw [HCS.out]; decide) (by rw [HCS.out]; exact info57) HCA.out ?_; intro w9 hx9 hB9 hc9 _; have hE9 : Ext w w9 No := Ext.transNew (by repeat (first | with_reducible exact HWC.out | with_reducible refine Ext.set ?_ (.inl hBw) _)) hx9 (by omega); clear hx9; have HB9 := Lib.hid hB9; clear hB9; have HC9 := Lib.hid hc9; clear hc9))
      refine bodyPost_big (fn := Tryz.f21) rfl rfl rfl HB9.out Tryz.underlying57 rfl info57 (fun es h1 h2 h3 => ⟨⟨es, rfl, h1, h2, (h3 7 (by decide)).trans ((by have h := HC9.out 7 (by rw [HCS.out]; decide); simpa using h : _ = cs[7]?).trans k7), (h3 8 (by decide)).trans ((by have h := HC9.out 8 (by rw [HCS.out]; decide); simpa using h : _ = cs[8]?).trans k8), (h3 9 (by decide)).trans ((by have h := HC9.out 9 (by rw [HCS.out]; decide); simpa using h : _ = cs[9]?).trans k9), (h3 10 (by decide)).trans ((by have h := HC9.out 10 (by rw [HCS.out]; decide); simpa using h : _ = cs[10]?).trans k10), (h3 11 (by decide)).trans ((by have h := HC9.out 11 (by rw [HCS.out]; decide); simpa using h : _ = cs[11]?).trans k11), (h3 12 (by decide)).trans ((by have h := HC9.out 12 (by rw [HCS.out]; decide); simpa using h : _ = cs[12]?).trans k12), (h3 15 (by decide)).trans ((by have h := HC9.out 15 (by rw [HCS.out]; decide); simpa using h : _ = cs[15]?).trans k15)⟩, hE9⟩)
    · clear HK
      have hnb : n * b ≤ 16 * 80 := Nat.mul_le_mul hn hb
      have hnb2 : (n : Int) * (b : Int) = ((n * b : Nat) : Int) := by simp
      generalize hnbe : n * b = nb at *
      have hc1 : ¬ (c : Int) = 0 := by omega
      have hc2 : ¬ c = 0 := by omega
      go_wp2_with (first
        | ((with_reducible refine at_dst 96 ?_); refine wpList_load_big _ rfl 57 (.tmp 3) rfl B 0 57 21 21 rfl (by repeat (first | with_reducible exact HBB.out | with_reducible refine Big.set ?_ _ rfl)) (by decide) Tryz.underlying57 rfl info57 ?_; intro cs hcs hca hcc; have k7 : cs[7]? = some (.int .u64 f0) := (hcc 7 (by decide)).trans (by simp [go_sem, b7]); have k8 : cs[8]? = some (.int .u64 f1) := (hcc 8 (by decide)).trans (by simp [go_sem, b8]); have k9 : cs[9]? = some (.int .i64 f2) := (hcc 9 (by decide)).trans (by simp [go_sem, b9]); have k10 : cs[10]? = some (.int .u64 f3) := (hcc 10 (by decide)).trans (by simp [go_sem, b10]); have k11 : cs[11]? = some (.int .u64 f4) := (hcc 11 (by decide)).trans (by simp [go_sem, b11]); have k12 : cs[12]? = some (.int .i64 f5) := (hcc 12 (by decide)).trans (by simp [go_sem, b12]); have k15 : cs[15]? = some (.int .i64 (n : Nat)) := (hcc 15 (by decide)).trans (by simp [go_sem, b15]); clear hcc; have HCS := Lib.hid hcs; clear hcs; have HCA := Lib.hid hca; clear hca)
        | ((with_reducible refine at_store 2 ?_); refine wpList_store_big _ rfl 57 (.tmp 2) (.tmp 96) rfl (w.heap.size + 1) 0 57 21 rfl cs rfl (by repeat (first | with_reducible exact HBR.out | with_reducible refine Big.other ?_ hB1 _ _)) (by rw [HCS.out]; decide) (by rw [HCS.out]; exact info57) HCA.out ?_; intro w9 hx9 hB9 hc9 _; have hE9 : Ext w w9 No := Ext.transNew (by repeat (first | with_reducible exact HWC.out | with_reducible refine Ext.set ?_ (.inl hBw) _)) hx9 (by omega); clear hx9; have HB9 := Lib.hid hB9; clear hB9; have HC9 := Lib.hid hc9; clear hc9))
      refine bodyPost_big (fn := Tryz.f21) rfl rfl rfl HB9.out Tryz.underlying57 rfl info57 (fun es h1 h2 h3 => ⟨⟨es, rfl, h1, h2, (h3 7 (by decide)).trans ((by have h := HC9.out 7 (by rw [HCS.out]; decide); simpa using h : _ = cs[7]?).trans k7), (h3 8 (by decide)).trans ((by have h := HC9.out 8 (by rw [HCS.out]; decide); simpa using h : _ = cs[8]?).trans k8), (h3 9 (by decide)).trans ((by have h := HC9.out 9 (by rw [HCS.out]; decide); simpa using h : _ = cs[9]?).trans k9), (h3 10 (by decide)).trans ((by have h := HC9.out 10 (by rw [HCS.out]; decide); simpa using h : _ = cs[10]?).trans k10), (h3 11 (by decide)).trans ((by have h := HC9.out 11 (by rw [HCS.out]; decide); simpa using h : _ = cs[11]?).trans k11), (h3 12 (by decide)).trans ((by have h := HC9.out 12 (by rw [HCS.out]; decide); simpa using h : _ = cs[12]?).trans k12), (h3 15 (by decide)).trans ((by have h := HC9.out 15 (by rw [HCS.out]; decide); simpa using h : _ = cs[15]?).trans k15)⟩, hE9⟩)
    · clear HK
      have hc1 : ¬ (c : Int) = 0 := by omega
      have hc2 : ¬ c = 0 := by omega
      go_wp2_with (first
        | ((with_reducible refine at_dst 96 ?_); refine wpList_load_big _ rfl 57 (.tmp 3) rfl B 0 57 21 21 rfl (by repeat (first | with_reducible exact HBB.out | with_reducible refine Big.set ?_ _ rfl)) (by decide) Tryz.underlying57 rfl info57 ?_; intro cs hcs hca hcc; have k7 : cs[7]? = some (.int .u64 f0) := (hcc 7 (by decide)).trans (by simp [go_sem, b7]); have k8 : cs[8]? = some (.int .u64 f1) := (hcc 8 (by decide)).trans (by simp [go_sem, b8]); have k9 : cs[9]? = some (.int .i64 f2) := (hcc 9 (by decide)).trans (by simp [go_sem, b9]); have k10 : cs[10]? = some (.int .u64 f3) := (hcc 10 (by decide)).trans (by simp [go_sem, b10]); have k11 : cs[11]? = some (.int .u64 f4) := (hcc 11 (by decide)).trans (by simp [go_sem, b11]); have k12 : cs[12]? = some (.int .i64 f5) := (hcc 12 (by decide)).trans (by simp [go_sem, b12]); have k15 : cs[15]? = some (.int .i64 (n : Nat)) := (hcc 15 (by decide)).trans (by simp [go_sem, b15]); clear hcc; have HCS := Lib.hid hcs; clear hcs; have HCA := Lib.hid hca; clear hca)
        | ((with_reducible refine at_store 2 ?_); refine wpList_store_big _ rfl 57 (.tmp 2) (.tmp 96) rfl (w.heap.size + 1) 0 57 21 rfl cs rfl (by repeat (first | with_reducible exact HBR.out | with_reducible refine Big.other ?_ hB1 _ _)) (by rw [HCS.out]; decide) (by rw [HCS.out]; exact info57) HCA.out ?_; intro w9 hx9 hB9 hc9 _; have hE9 : Ext w w9 No := Ext.transNew (by repeat (first | with_reducible exact HWC.out | with_reducible refine Ext.set ?_ (.inl hBw) _)) hx9 (by omega); clear hx9; have HB9 := Lib.hid hB9; clear hB9; have HC9 := Lib.hid hc9; clear hc9))
      refine bodyPost_big (fn := Tryz.f21) rfl rfl rfl HB9.out Tryz.underlying57 rfl info57 (fun es h1 h2 h3 => ⟨⟨es, rfl, h1, h2, (h3 7 (by decide)).trans ((by have h := HC9.out 7 (by rw [HCS.out]; decide); simpa using h : _ = cs[7]?).trans k7), (h3 8 (by decide)).trans ((by have h := HC9.out 8 (by rw [HCS.out]; decide); simpa using h : _ = cs[8]?).trans k8), (h3 9 (by decide)).trans ((by have h := HC9.out 9 (by rw [HCS.out]; decide); simpa using h : _ = cs[9]?).trans k9), (h3 10 (by decide)).trans ((by have h := HC9.out 10 (by rw [HCS.out]; decide); simpa using h : _ = cs[10]?).trans k10), (h3 11 (by decide)).trans ((by have h := HC9.out 11 (by rw [HCS.out]; decide); simpa using h : _ = cs[11]?).trans k11), (h3 12 (by decide)).trans ((by have h := HC9.out 12 (by rw [HCS.out]; decide); simpa using h : _ = cs[12]?).trans k12), (h3 15 (by decide)).trans ((by have h := HC9.out 15 (by rw [HCS.out]; decide); simpa using h : _ = cs[15]?).trans k15)⟩, hE9⟩)
    · clear HK
      have hc1 : ¬ (c : Int) = 0 := by omega
      have hc2 : ¬ c = 0 := by omega
      go_wp2_with (first
        | (go_at_call 39; refine (len64 m hm _).mono ?_; rintro e w4 ⟨⟨kk, rfl, -, hk64, hk63⟩, rfl⟩)
        | ((with_reducible refine at_dst 96 ?_); refine wpList_load_big _ rfl 57 (.tmp 3) rfl B 0 57 21 21 rfl (by repeat (first | with_reducible exact HBB.out | with_reducible refine Big.set ?_ _ rfl)) (by decide) Tryz.underlying57 rfl info57 ?_; intro cs hcs hca hcc; have k7 : cs[7]? = some (.int .u64 f0) := (hcc 7 (by decide)).trans (by simp [go_sem, b7]); have k8 : cs[8]? = some (.int .u64 f1) := (hcc 8 (by decide)).trans (by simp [go_sem, b8]); have k9 : cs[9]? = some (.int .i64 f2) := (hcc 9 (by decide)).trans (by simp [go_sem, b9]); have k10 : cs[10]? = some (.int .u64 f3) := (hcc 10 (by decide)).trans (by simp [go_sem, b10]); have k11 : cs[11]? = some (.int .u64 f4) := (hcc 11 (by decide)).trans (by simp [go_sem, b11]); have k12 : cs[12]? = some (.int .i64 f5) := (hcc 12 (by decide)).trans (by simp [go_sem, b12]); have k15 : cs[15]? = some (.int .i64 (n : Nat)) := (hcc 15 (by decide)).trans (by simp [go_sem, b15]); clear hcc; have HCS := Lib.hid hcs; clear hcs; have HCA := Lib.hid hca; clear hca)
        | ((with_reducible refine at_store 2 ?_); refine wpList_store_big _ rfl 57 (.tmp 2) (.tmp 96) rfl (w.heap.size + 1) 0 57 21 rfl cs rfl (by repeat (first | with_reducible exact HBR.out | with_reducible refine Big.other ?_ hB1 _ _)) (by rw [HCS.out]; decide) (by rw [HCS.out]; exact info57) HCA.out ?_; intro w9 hx9 hB9 hc9 _; have hE9 : Ext w w9 No := Ext.transNew (by repeat (first | with_reducible exact HWC.out | with_reducible refine Ext.set ?_ (.inl hBw) _)) hx9 (by omega); clear hx9; have HB9 := Lib.hid hB9; clear hB9; have HC9 := Lib.hid hc9; clear hc9))
      refine bodyPost_big (fn := Tryz.f21) rfl rfl rfl HB9.out Tryz.underlying57 rfl info57 (fun es h1 h2 h3 => ⟨⟨es, rfl, h1, h2, (h3 7 (by decide)).trans ((by have h := HC9.out 7 (by rw [HCS.out]; decide); simpa using h : _ = cs[7]?).trans k7), (h3 8 (by decide)).trans ((by have h := HC9.out 8 (by rw [HCS.out]; decide); simpa using h : _ = cs[8]?).trans k8), (h3 9 (by decide)).trans ((by have h := HC9.out 9 (by rw [HCS.out]; decide); simpa using h : _ = cs[9]?).trans k9), (h3 10 (by decide)).trans ((by have h := HC9.out 10 (by rw [HCS.out]; decide); simpa using h : _ = cs[10]?).trans k10), (h3 11 (by decide)).trans ((by have h := HC9.out 11 (by rw [HCS.out]; decide); simpa using h : _ = cs[11]?).trans k11), (h3 12 (by decide)).trans ((by have h := HC9.out 12 (by rw [HCS.out]; decide); simpa using h : _ = cs[12]?).trans k12), (h3 15 (by decide)).trans ((by have h := HC9.out 15 (by rw [HCS.out]; decide); simpa using h : _ = cs[15]?).trans k15)⟩, hE9⟩)

theorem circuit64 {k s n b c m L C : Nat} {a : Option Addr} (hn : n ≤ 16) (hb : b ≤ 80) (hc : c ≤ 16) (hm : m < 18446744073709551616) (hk : k = 1 ∨ (k = 2 ∧ m < 9223372036854775808)) (w : World) :
    Calls Tryz.prog 21 #[parV k s n b c m (.slice a L C)] w fun e w' => CircV (lw P64) (hw P64) 8 1753635133440165772 0 32 1 e ∧ Ext w w' No := by
  have hf : ∀ w : World, Calls Tryz.prog 38 #[.int .i64 (k : Nat)] w fun e w' => e = .returned (.agg #[.int .u64 (lw P64), .int .u64 (hw P64), .int .i64 8, .int .u64 1753635133440165772, .int .u64 0, .int .i64 32]) ∧ Ext w w' No := fun w => fieldOf64 (by omega) w
  have h := circuitG hf hn hb hc hm (by rcases hk with h | h <;> simp [h]) (s := s) (L := L) (C := C) (a := a) w
  rw [if_pos (by omega)] at h
  exact h
theorem circuit128 {k s n b c m L C : Nat} {a : Option Addr} (hn : n ≤ 16) (hb : b ≤ 80) (hc : c ≤ 16) (hm : m < 18446744073709551616) (hk : k = 3 ∨ k = 4 ∨ k = 5) (hc0 : 0 < c) (w : World) :
    Calls Tryz.prog 21 #[parV k s n b c m (.slice a L C)] w fun e w' => CircV (lw P128) (hw P128) 16 2277457303077691142 7865413326059086475 66 n e ∧ Ext w w' No := by
  have hf : ∀ w : World, Calls Tryz.prog 38 #[.int .i64 (k : Nat)] w fun e w' => e = .returned (.agg #[.int .u64 (lw P128), .int .u64 (hw P128), .int .i64 16, .int .u64 2277457303077691142, .int .u64 7865413326059086475, .int .i64 66]) ∧ Ext w w' No := fun w => fieldOf128 (by omega) w
  have h := circuitG hf hn hb hc hm (by rcases hk with h | h | h <;> simp [h, hc0]) (s := s) (L := L) (C := C) (a := a) w
  rw [if_neg (by omega)] at h
  exact h
end Go.Proofs.YtlmmdldjfpdcfaaGreatDoor
