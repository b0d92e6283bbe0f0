/-
  The lengths that a proof system tells: some numbers.
-/
import Derived.Test.YtlmmdldjfpdcfaaGreatDoorM16
namespace Go.Proofs.YtlmmdldjfpdcfaaGreatDoor
open Go.RowKit

theorem wrapN {z x : Int} (h : IntKind.u64.wrap z = x) : ∃ n : Nat, x = (n : Int) ∧ n < 18446744073709551616 := by
  refine ⟨x.toNat, ?_, ?_⟩ <;> rw [← h, IntKind.wrap_u64] <;> omega
@[go_sem] theorem ahead200Arity (w : World) : (nilAhead 486 200 (.agg #[]) "Arity").run Tryz.prog w = .ok (some false) w := by kernel_rfl
@[go_sem] theorem meth200Arity (w : World) : (method 486 200 (.agg #[]) "Arity").run Tryz.prog w = .ok (272, .agg #[]) w := by kernel_rfl
@[go_sem] theorem ahead200Degree (w : World) : (nilAhead 486 200 (.agg #[]) "Degree").run Tryz.prog w = .ok (some false) w := by kernel_rfl
@[go_sem] theorem meth200Degree (w : World) : (method 486 200 (.agg #[]) "Degree").run Tryz.prog w = .ok (273, .agg #[]) w := by kernel_rfl
@[go_sem] theorem ahead209Arity (w : World) : (nilAhead 486 209 (.agg #[]) "Arity").run Tryz.prog w = .ok (some false) w := by kernel_rfl
@[go_sem] theorem meth209Arity (w : World) : (method 486 209 (.agg #[]) "Arity").run Tryz.prog w = .ok (275, .agg #[]) w := by kernel_rfl
@[go_sem] theorem ahead209Degree (w : World) : (nilAhead 486 209 (.agg #[]) "Degree").run Tryz.prog w = .ok (some false) w := by kernel_rfl
@[go_sem] theorem meth209Degree (w : World) : (method 486 209 (.agg #[]) "Degree").run Tryz.prog w = .ok (276, .agg #[]) w := by kernel_rfl
@[go_sem] theorem ahead232Arity (q : Nat) (w : World) : (nilAhead 486 232 (.agg #[.int .u64 (q : Nat)]) "Arity").run Tryz.prog w = .ok (some false) w := by kernel_rfl
@[go_sem] theorem meth232Arity (q : Nat) (w : World) : (method 486 232 (.agg #[.int .u64 (q : Nat)]) "Arity").run Tryz.prog w = .ok (279, .agg #[.int .u64 (q : Nat)]) w := by kernel_rfl
@[go_sem] theorem ahead232Degree (q : Nat) (w : World) : (nilAhead 486 232 (.agg #[.int .u64 (q : Nat)]) "Degree").run Tryz.prog w = .ok (some false) w := by kernel_rfl
@[go_sem] theorem meth232Degree (q : Nat) (w : World) : (method 486 232 (.agg #[.int .u64 (q : Nat)]) "Degree").run Tryz.prog w = .ok (280, .agg #[.int .u64 (q : Nat)]) w := by kernel_rfl

theorem poly1 {fb g : Nat} {w : World} (hg : w.cell? ⟨fb, 1, none⟩ = some (.int .u64 (g : Nat))) (hp : ∀ w', Ext w w' No → (partAt ⟨fb, 1, none⟩ 0 0).run Tryz.prog w' = .ok ⟨fb, 1, none⟩ w') (hD : Deb w) : Calls Tryz.prog 253 #[.pointer (some ⟨fb, 1, none⟩)] w fun e w' => (∃ v : Int, e = .returned (.int .u64 v)) ∧ Ext w w' No := by
  have p0 := hp _ (Ext.refl w No)
  have HD := Lib.hid hD; clear hD
  clear hp
  go_enter Tryz.func253, Tryz.ntmps253
  go_wp2_with (first
    | (go_at_call 254; generalize hz : IntKind.u64.wrap _ = z; obtain ⟨n, rfl, hn⟩ := wrapN hz; clear hz; refine (nextPow2 n hn _ HD.out).mono ?_; rintro e w' ⟨⟨u, v, rfl⟩, rfl⟩)
    | (go_at_call 273; refine (de200 _).mono ?_; rintro e w1 ⟨⟨v1, rfl⟩, hx1⟩))
  go_ret
  exact ⟨⟨_, rfl⟩, hx1⟩
theorem proof1 {fb g : Nat} {w : World} (hg : w.cell? ⟨fb, 1, none⟩ = some (.int .u64 (g : Nat))) (hp : ∀ w', Ext w w' No → (partAt ⟨fb, 1, none⟩ 0 0).run Tryz.prog w' = .ok ⟨fb, 1, none⟩ w') (hD : Deb w) : Calls Tryz.prog 249 #[.pointer (some ⟨fb, 1, none⟩)] w fun e w' => (∃ v : Int, e = .returned (.int .u64 v)) ∧ Ext w w' No := by
  have p0 := hp _ (Ext.refl w No)
  have K := fun w' (hx : Ext w w' No) => poly1 (fb := fb) (g := g) (hx.cellNo hg) (fun w' h => hp w' (hx.trans h (fun _ _ f => f))) (hD.extNo hx)
  have HK := Lib.hid K; clear K hD
  clear hp
  go_enter Tryz.func249, Tryz.ntmps249
  go_wp2_with (first
    | (go_at_call 272; refine (ar200 _).mono ?_; rintro e w1 ⟨⟨v1, rfl⟩, hx1⟩)
    | (go_at_call 253; refine (HK.out _ hx1).mono ?_; rintro e w2 ⟨⟨v2, rfl⟩, hx2⟩))
  go_ret
  exact ⟨⟨_, rfl⟩, hx1.transNo hx2⟩
theorem prove1 {fb g : Nat} {w : World} (_hg : w.cell? ⟨fb, 1, none⟩ = some (.int .u64 (g : Nat))) (hp : ∀ w', Ext w w' No → (partAt ⟨fb, 1, none⟩ 0 0).run Tryz.prog w' = .ok ⟨fb, 1, none⟩ w') (_hD : Deb w) : Calls Tryz.prog 250 #[.pointer (some ⟨fb, 1, none⟩)] w fun e w' => (∃ v : Int, e = .returned (.int .u64 v)) ∧ Ext w w' No := by
  have p0 := hp _ (Ext.refl w No)
  clear _hD _hg
  clear hp
  go_enter Tryz.func250, Tryz.ntmps250
  go_wp2_with (go_at_call 272; refine (ar200 _).mono ?_; rintro e w1 ⟨⟨v1, rfl⟩, hx1⟩)
  go_ret
  exact ⟨⟨_, rfl⟩, hx1⟩
theorem veri1 {fb g : Nat} {w : World} (_hg : w.cell? ⟨fb, 1, none⟩ = some (.int .u64 (g : Nat))) (hp : ∀ w', Ext w w' No → (partAt ⟨fb, 1, none⟩ 0 0).run Tryz.prog w' = .ok ⟨fb, 1, none⟩ w') (_hD : Deb w) : Calls Tryz.prog 252 #[.pointer (some ⟨fb, 1, none⟩)] w fun e w' => (∃ v : Int, e = .returned (.int .u64 v)) ∧ Ext w w' No := by
  have p0 := hp _ (Ext.refl w No)
  clear _hD _hg
  clear hp
  go_enter Tryz.func252, Tryz.ntmps252
  go_wp2_with (go_at_call 272; refine (ar200 _).mono ?_; rintro e w1 ⟨⟨v1, rfl⟩, hx1⟩)
  go_ret
  exact ⟨⟨_, rfl⟩, hx1⟩

theorem poly2 {fb g : Nat} {w : World} (hg : w.cell? ⟨fb, 1, none⟩ = some (.int .u64 (g : Nat))) (hp : ∀ w', Ext w w' No → (partAt ⟨fb, 1, none⟩ 0 0).run Tryz.prog w' = .ok ⟨fb, 1, none⟩ w') (hD : Deb w) : Calls Tryz.prog 267 #[.pointer (some ⟨fb, 1, none⟩)] w fun e w' => (∃ v : Int, e = .returned (.int .u64 v)) ∧ Ext w w' No := by
  have p0 := hp _ (Ext.refl w No)
  have HD := Lib.hid hD; clear hD
  clear hp
  go_enter Tryz.func267, Tryz.ntmps267
  go_wp2_with (first
    | (go_at_call 254; generalize hz : IntKind.u64.wrap _ = z; obtain ⟨n, rfl, hn⟩ := wrapN hz; clear hz; refine (nextPow2 n hn _ HD.out).mono ?_; rintro e w' ⟨⟨u, v, rfl⟩, rfl⟩)
    | (go_at_call 276; refine (de209 _).mono ?_; rintro e w1 ⟨⟨v1, rfl⟩, hx1⟩))
  go_ret
  exact ⟨⟨_, rfl⟩, hx1⟩
theorem proof2 {fb g : Nat} {w : World} (hg : w.cell? ⟨fb, 1, none⟩ = some (.int .u64 (g : Nat))) (hp : ∀ w', Ext w w' No → (partAt ⟨fb, 1, none⟩ 0 0).run Tryz.prog w' = .ok ⟨fb, 1, none⟩ w') (hD : Deb w) : Calls Tryz.prog 264 #[.pointer (some ⟨fb, 1, none⟩)] w fun e w' => (∃ v : Int, e = .returned (.int .u64 v)) ∧ Ext w w' No := by
  have p0 := hp _ (Ext.refl w No)
  have K := fun w' (hx : Ext w w' No) => poly2 (fb := fb) (g := g) (hx.cellNo hg) (fun w' h => hp w' (hx.trans h (fun _ _ f => f))) (hD.extNo hx)
  have HK := Lib.hid K; clear K hD
  clear hp
  go_enter Tryz.func264, Tryz.ntmps264
  go_wp2_with (first
    | (go_at_call 275; refine (ar209 _).mono ?_; rintro e w1 ⟨⟨v1, rfl⟩, hx1⟩)
    | (go_at_call 267; refine (HK.out _ hx1).mono ?_; rintro e w2 ⟨⟨v2, rfl⟩, hx2⟩))
  go_ret
  exact ⟨⟨_, rfl⟩, hx1.transNo hx2⟩
theorem prove2 {fb g : Nat} {w : World} (_hg : w.cell? ⟨fb, 1, none⟩ = some (.int .u64 (g : Nat))) (hp : ∀ w', Ext w w' No → (partAt ⟨fb, 1, none⟩ 0 0).run Tryz.prog w' = .ok ⟨fb, 1, none⟩ w') (_hD : Deb w) : Calls Tryz.prog 265 #[.pointer (some ⟨fb, 1, none⟩)] w fun e w' => (∃ v : Int, e = .returned (.int .u64 v)) ∧ Ext w w' No := by
  have p0 := hp _ (Ext.refl w No)
  clear _hD _hg
  clear hp
  go_enter Tryz.func265, Tryz.ntmps265
  go_wp2_with (go_at_call 275; refine (ar209 _).mono ?_; rintro e w1 ⟨⟨v1, rfl⟩, hx1⟩)
  go_ret
  exact ⟨⟨_, rfl⟩, hx1⟩
theorem veri2 {fb g : Nat} {w : World} (_hg : w.cell? ⟨fb, 1, none⟩ = some (.int .u64 (g : Nat))) (hp : ∀ w', Ext w w' No → (partAt ⟨fb, 1, none⟩ 0 0).run Tryz.prog w' = .ok ⟨fb, 1, none⟩ w') (_hD : Deb w) : Calls Tryz.prog 266 #[.pointer (some ⟨fb, 1, none⟩)] w fun e w' => (∃ v : Int, e = .returned (.int .u64 v)) ∧ Ext w w' No := by
  have p0 := hp _ (Ext.refl w No)
  clear _hD _hg
  clear hp
  go_enter Tryz.func266, Tryz.ntmps266
  go_wp2_with (go_at_call 275; refine (ar209 _).mono ?_; rintro e w1 ⟨⟨v1, rfl⟩, hx1⟩)
  go_ret
  exact ⟨⟨_, rfl⟩, hx1⟩

theorem poly3 {fb g q : Nat} {w : World} (hg : w.cell? ⟨fb, 2, none⟩ = some (.int .u64 (g : Nat))) (hp : w.cell? ⟨fb, 1, none⟩ = some (.int .u64 (q : Nat))) (hD : Deb w) : Calls Tryz.prog 271 #[.pointer (some ⟨fb, 1, none⟩)] w fun e w' => (∃ v : Int, e = .returned (.int .u64 v)) ∧ Ext w w' No := by
  have HD := Lib.hid hD; clear hD
  skip
  go_enter Tryz.func271, Tryz.ntmps271
  go_wp2_with (first
    | (go_at_call 254; generalize hz : IntKind.u64.wrap _ = z; obtain ⟨n, rfl, hn⟩ := wrapN hz; clear hz; refine (nextPow2 n hn _ HD.out).mono ?_; rintro e w' ⟨⟨u, v, rfl⟩, rfl⟩)
    | (go_at_call 280; refine (de232 q _).mono ?_; rintro e w1 ⟨⟨v1, rfl⟩, hx1⟩))
  go_ret
  exact ⟨⟨_, rfl⟩, hx1⟩
theorem proof3 {fb g q : Nat} {w : World} (hg : w.cell? ⟨fb, 2, none⟩ = some (.int .u64 (g : Nat))) (hp : w.cell? ⟨fb, 1, none⟩ = some (.int .u64 (q : Nat))) (hD : Deb w) : Calls Tryz.prog 268 #[.pointer (some ⟨fb, 1, none⟩)] w fun e w' => (∃ v : Int, e = .returned (.int .u64 v)) ∧ Ext w w' No := by
  have K := fun w' (hx : Ext w w' No) => poly3 (fb := fb) (g := g) (hx.cellNo hg) (hx.cellNo hp) (hD.extNo hx)
  have HK := Lib.hid K; clear K hD
  skip
  go_enter Tryz.func268, Tryz.ntmps268
  go_wp2_with (first
    | (go_at_call 279; refine (ar232 q _).mono ?_; rintro e w1 ⟨⟨v1, rfl⟩, hx1⟩)
    | (go_at_call 271; refine (HK.out _ hx1).mono ?_; rintro e w2 ⟨⟨v2, rfl⟩, hx2⟩))
  go_ret
  exact ⟨⟨_, rfl⟩, hx1.transNo hx2⟩
theorem prove3 {fb g q : Nat} {w : World} (_hg : w.cell? ⟨fb, 2, none⟩ = some (.int .u64 (g : Nat))) (hp : w.cell? ⟨fb, 1, none⟩ = some (.int .u64 (q : Nat))) (_hD : Deb w) : Calls Tryz.prog 269 #[.pointer (some ⟨fb, 1, none⟩)] w fun e w' => (∃ v : Int, e = .returned (.int .u64 v)) ∧ Ext w w' No := by
  clear _hD _hg
  skip
  go_enter Tryz.func269, Tryz.ntmps269
  go_wp2_with (go_at_call 279; refine (ar232 q _).mono ?_; rintro e w1 ⟨⟨v1, rfl⟩, hx1⟩)
  go_ret
  exact ⟨⟨_, rfl⟩, hx1⟩
theorem veri3 {fb g q : Nat} {w : World} (_hg : w.cell? ⟨fb, 2, none⟩ = some (.int .u64 (g : Nat))) (hp : w.cell? ⟨fb, 1, none⟩ = some (.int .u64 (q : Nat))) (_hD : Deb w) : Calls Tryz.prog 270 #[.pointer (some ⟨fb, 1, none⟩)] w fun e w' => (∃ v : Int, e = .returned (.int .u64 v)) ∧ Ext w w' No := by
  clear _hD _hg
  skip
  go_enter Tryz.func270, Tryz.ntmps270
  go_wp2_with (go_at_call 279; refine (ar232 q _).mono ?_; rintro e w1 ⟨⟨v1, rfl⟩, hx1⟩)
  go_ret
  exact ⟨⟨_, rfl⟩, hx1⟩
end Go.Proofs.YtlmmdldjfpdcfaaGreatDoor
