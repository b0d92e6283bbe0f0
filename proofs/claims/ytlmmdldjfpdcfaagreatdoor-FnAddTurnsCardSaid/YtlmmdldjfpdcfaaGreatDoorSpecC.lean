/-
  spec.IsSmall, zzFits1: the tests on the parameters.
-/
import Derived.Test.YtlmmdldjfpdcfaaGreatDoorM14
namespace Go.Proofs.YtlmmdldjfpdcfaaGreatDoor
open Go.RowKit

/-- The parameters as they come in: any numbers. -/
def parI (k s n b c m : Int) (v : Value) : Value := .agg #[.int .i64 k, .int .i64 s, .int .i64 n, .int .i64 b, .int .i64 c, .int .u64 m, v]
theorem fits1 {k s n b c m : Int} {a : Option Addr} {L C : Nat} (w : World) : Calls Tryz.prog 6 #[parI k s n b c m (.slice a L C)] w fun e w' => e = .returned (.bool (decide (L ≤ 2147483647))) ∧ Ext w w' No := by
  unfold parI
  by_cases h : L ≤ 2147483647
  · have d : decide ((2147483647 : Int) < (L : Int)) = false := decide_eq_false (by omega)
    have d2 : decide (2147483647 < L) = false := decide_eq_false (by omega)
    have D : decide (L ≤ 2147483647) = true := decide_eq_true h
    clear h
    go_enter Tryz.func6, Tryz.ntmps6
    go_wp2
    go_ret
    exact ⟨by rw [D]; rfl, (Ext.refl w No).alloc _⟩
  · have d : decide ((2147483647 : Int) < (L : Int)) = true := decide_eq_true (by omega)
    have d2 : decide (2147483647 < L) = true := decide_eq_true (by omega)
    have D : decide (L ≤ 2147483647) = false := decide_eq_false h
    clear h
    go_enter Tryz.func6, Tryz.ntmps6
    go_wp2
    go_ret
    exact ⟨by rw [D]; rfl, (Ext.refl w No).alloc _⟩

set_option maxRecDepth 20000 in
theorem isSmall {k s n b c m : Int} {a : Option Addr} {L C : Nat} (w : World) : Calls Tryz.prog 8 #[parI k s n b c m (.slice a L C)] w fun e w' =>
    e = .returned (.bool (decide (0 ≤ s ∧ s ≤ 255 ∧ 0 ≤ n ∧ n ≤ 16 ∧ 0 ≤ b ∧ b ≤ 80 ∧ 0 ≤ c ∧ c ≤ 16 ∧ L ≤ 4096))) ∧ Ext w w' No := by
  unfold parI
  go_enter Tryz.func8, Tryz.ntmps8
  go_wp2
  all_goals
    go_ret
    refine ⟨?_, (Ext.refl w No).alloc _⟩
    simp
    first
      | done
      | omega
      | (rw [Bool.eq_iff_iff]; simp; omega)

/-- Which parameters name a kind. -/
def kindI (k s n b c m : Int) (L : Nat) : Prop := ¬ (s < 2 ∨ 255 < s ∨ 65527 < L) ∧ (k = 1 ∨ (k = 2 ∧ m < 9223372036854775808) ∨ (k = 3 ∧ 1 ≤ n ∧ 1 ≤ b ∧ b ≤ 64 ∧ 1 ≤ c) ∨ (k = 4 ∧ 1 ≤ n ∧ 1 ≤ c) ∨ (k = 5 ∧ 1 ≤ n ∧ 1 ≤ c ∧ m ≤ IntKind.u64.wrap n))
def KindPost (k s n b c m : Int) (L : Nat) (e : Ending) : Prop := ∃ r, e = .returned (.bool r) ∧ (r = true ↔ kindI k s n b c m L)
set_option maxRecDepth 20000 in
theorem isKind {k s n b c m : Int} {a : Option Addr} {L C : Nat} (w : World) : Calls Tryz.prog 9 #[parI k s n b c m (.slice a L C)] w fun e w' =>
    KindPost k s n b c m L e ∧ Ext w w' No := by
  unfold parI
  go_enter Tryz.func9, Tryz.ntmps9
  go_wp2
  all_goals
    go_ret
    refine ⟨⟨_, rfl, ?_⟩, (Ext.refl w No).alloc _⟩
    unfold kindI
    simp
    first
      | done
      | omega
      | (simp only [beq_iff_eq, beq_eq_false_iff_ne, ne_eq] at *; omega)
end Go.Proofs.YtlmmdldjfpdcfaaGreatDoor
