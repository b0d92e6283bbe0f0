/-
  What later texts share: how one world goes on from another (Ext), what a block holds behind new blocks and stores, and the words for numbers of 64 bits.
-/
import Derived.WalkKit
import Derived.WalkSpells
import Derived.WalkLawsBesides
import Derived.KernelRfl
import Derived.Lib.Hide
import Derived.Laws.EntriesVeiled
import Derived.Laws.Externs
import Derived.Deep.RegionHeld3
import Derived.Deep.QuietTactic
import Derived.Deep.DeepFit
import Derived.Deep.LoopGhost
import Derived.BigQuiet
import Derived.Test.YtlmmdldjfpdcfaaGreatDoorProg
import Derived.Shelf.Spec.BitsCarry
import Derived.Lib.Mul64
namespace Go.Proofs.YtlmmdldjfpdcfaaGreatDoor
open Go.RowKit

/-! ### Worlds -/
/-- The world w' goes on from w: new blocks, and of the old ones those of S alone may have turned. -/
structure Ext (w w' : World) (S : Nat → Prop) : Prop where
  os : w'.os = w.os
  tape : w'.tape = w.tape
  output : w'.output = w.output
  size : w.heap.size ≤ w'.heap.size
  block : ∀ k, k < w.heap.size → ¬ S k → w'.heap[k]? = w.heap[k]?

def No : Nat → Prop := fun _ => False

theorem lt_of_blk {w : World} {b : Nat} {o : Obj} (h : w.heap[b]? = some o) : b < w.heap.size := by
  rcases Nat.lt_or_ge b w.heap.size with h' | h'
  · exact h'
  · simp [Array.getElem?_eq_none h'] at h

theorem Ext.refl (w : World) (S : Nat → Prop) : Ext w w S := ⟨rfl, rfl, rfl, Nat.le_refl _, fun _ _ _ => rfl⟩
theorem Ext.mono {w w' : World} {S T : Nat → Prop} (h : Ext w w' S) (hs : ∀ k, k < w.heap.size → S k → T k) : Ext w w' T :=
  ⟨h.os, h.tape, h.output, h.size, fun k hk hn => h.block k hk (fun hS => hn (hs k hk hS))⟩
theorem Ext.trans {a b c : World} {S T : Nat → Prop} (h : Ext a b S) (k : Ext b c T) (hs : ∀ i, i < a.heap.size → T i → S i) : Ext a c S :=
  ⟨k.os.trans h.os, k.tape.trans h.tape, k.output.trans h.output, Nat.le_trans h.size k.size,
    fun i hi hn => (k.block i (Nat.lt_of_lt_of_le hi h.size) (fun hT => hn (hs i hi hT))).trans (h.block i hi hn)⟩
theorem Ext.transNo {a b c : World} {S : Nat → Prop} (h : Ext a b S) (k : Ext b c No) : Ext a c S := h.trans k (fun _ _ f => f.elim)
theorem Ext.drew {a b : World} {S : Nat → Prop} (h : Ext a b S) : Ext a b.drew S := ⟨h.os, h.tape, h.output, h.size, h.block⟩
theorem Ext.drewN {a b : World} {S : Nat → Prop} (h : Ext a b S) (n : Nat) : Ext a (b.drewN n) S := ⟨h.os, h.tape, h.output, h.size, h.block⟩
theorem Ext.alloc {a b : World} {S : Nat → Prop} (h : Ext a b S) (o : Obj) : Ext a (b.alloc o) S :=
  ⟨h.os, h.tape, h.output, Nat.le_trans h.size (by simp), fun k hk hn => (Below.heap_alloc _ _ _ (Nat.lt_of_lt_of_le hk h.size)).trans (h.block k hk hn)⟩
theorem Ext.set {a b : World} {S : Nat → Prop} (h : Ext a b S) {p : Addr} (hp : a.heap.size ≤ p.block ∨ S p.block) (v : Value) : Ext a (b.setCell p v) S :=
  ⟨h.os, h.tape, h.output, Nat.le_trans h.size (by simp), fun k hk hn => by
    rw [Below.heap_setCell _ _ _ _ (by rintro rfl; exact hp.elim (fun h' => Nat.lt_irrefl _ (Nat.lt_of_lt_of_le hk h')) hn)]
    exact h.block k hk hn⟩
theorem Ext.setRow {a b : World} {S : Nat → Prop} (h : Ext a b S) {g : Nat} (hp : a.heap.size ≤ g ∨ S g) (cs : Array Value) : Ext a (b.setRow g cs) S :=
  ⟨h.os, h.tape, h.output, Nat.le_trans h.size (by simp), fun k hk hn => by
    have hne : k ≠ g := by rintro rfl; exact hp.elim (fun h' => Nat.lt_irrefl _ (Nat.lt_of_lt_of_le hk h')) hn
    have e : (b.setRow g cs).heap[k]? = b.heap[k]? := by
      simp only [World.setRow, Array.getElem?_modify]
      rw [if_neg (by omega)]
    rw [e]
    exact h.block k hk hn⟩
theorem Ext.grown {a b c : World} {S : Nat → Prop} {row : Option Nat} (h : Ext a b S) (hg : b.grownBy c row) (hr : ∀ k, row = some k → a.heap.size ≤ k ∨ S k) : Ext a c S :=
  ⟨hg.os.trans h.os, hg.tape.trans h.tape, hg.output.trans h.output, Nat.le_trans h.size hg.size, fun k hk hn =>
    (hg.block k (Nat.lt_of_lt_of_le hk h.size) (fun e => (hr k e.symm).elim (fun h' => Nat.lt_irrefl _ (Nat.lt_of_lt_of_le hk h')) hn)).trans (h.block k hk hn)⟩

theorem Ext.blk {w w' : World} {S : Nat → Prop} (h : Ext w w' S) {b : Nat} {o : Obj} (hb : w.heap[b]? = some o) (hn : ¬ S b) : w'.heap[b]? = some o :=
  (h.block b (lt_of_blk hb) hn).trans hb
theorem Ext.blkNo {w w' : World} (h : Ext w w' No) {b : Nat} {o : Obj} (hb : w.heap[b]? = some o) : w'.heap[b]? = some o := h.blk hb (fun f => f)
theorem Ext.cell {w w' : World} {S : Nat → Prop} (h : Ext w w' S) {p : Addr} {v : Value} (hc : w.cell? p = some v) (hn : ¬ S p.block) : w'.cell? p = some v :=
  (World.cell?_of_block (w := w) (h.block p.block (World.block_lt_of_cell? w p hc) hn)).trans hc
theorem Ext.cellNo {w w' : World} (h : Ext w w' No) {p : Addr} {v : Value} (hc : w.cell? p = some v) : w'.cell? p = some v := h.cell hc (fun f => f)
theorem Ext.frz {w w' : World} {S : Nat → Prop} (h : Ext w w' S) {p : Addr} (hl : p.block < w.heap.size) (hn : ¬ S p.block) : w'.frozen? p = w.frozen? p :=
  World.frozen?_of_block (w := w) (h.block p.block hl hn)
theorem Ext.below {w w' : World} (h : Ext w w' No) : Below w.heap.size w w' := ⟨h.os, h.tape, h.output, h.size, fun k hk => h.block k hk (fun f => f)⟩
theorem Ext.ofBelow {w w' : World} (h : Below w.heap.size w w') (S : Nat → Prop) : Ext w w' S := ⟨h.os, h.tape, h.output, h.size, fun k hk _ => h.block k hk⟩

@[go_sem] theorem alloc_drewN (w : World) (n : Nat) (o : Obj) : (w.drewN n).alloc o = (w.alloc o).drewN n := rfl
@[go_sem] theorem setCell_drewN (w : World) (n : Nat) (p : Addr) (v : Value) : (w.drewN n).setCell p v = (w.setCell p v).drewN n := rfl

/-! ### Blocks -/
theorem blk_alloc {w : World} {b : Nat} {o : Obj} (h : w.heap[b]? = some o) (x : Obj) : (w.alloc x).heap[b]? = some o := (Below.heap_alloc _ _ _ (lt_of_blk h)).trans h
theorem blk_new (w : World) (o : Obj) : (w.alloc o).heap[w.heap.size]? = some o := heap_alloc_new w o
theorem blk_set {w : World} {b : Nat} {cs : Array Value} {t : TypeId} (h : w.heap[b]? = some (.cells cs t (0, 0))) (i : Nat) (v : Value) :
    (w.setCell ⟨b, i, none⟩ v).heap[b]? = some (.cells (cs.setIfInBounds i v) t (0, 0)) := heap_setCell_same w b i cs t v h
theorem blk_set_ne {w : World} {b : Nat} {o : Obj} (h : w.heap[b]? = some o) {p : Addr} (hne : b ≠ p.block) (v : Value) : (w.setCell p v).heap[b]? = some o :=
  (heap_setCell_other w p b v hne).trans h
theorem blk_cell {w : World} {b : Nat} {cs : Array Value} {t : TypeId} {fr : Nat × Nat} (h : w.heap[b]? = some (.cells cs t fr)) (i : Nat) : w.cell? ⟨b, i, none⟩ = cs[i]? := cell_of_row w b i cs t fr h
theorem blk_frz {w : World} {b : Nat} {cs : Array Value} {t : TypeId} (h : w.heap[b]? = some (.cells cs t (0, 0))) (i : Nat) : w.frozen? ⟨b, i, none⟩ = false := frozen_of_row w b i cs t h

theorem blk_grown {w w' : World} {row : Option Nat} (hg : w.grownBy w' row) {b : Nat} {o : Obj} (h : w.heap[b]? = some o) (hne : some b ≠ row) : w'.heap[b]? = some o := (hg.block b (lt_of_blk h) hne).trans h
theorem cell_alloc {w : World} {p : Addr} {v : Value} (h : w.cell? p = some v) (o : Obj) : (w.alloc o).cell? p = some v := (World.cell?_alloc_lt _ _ _ (World.block_lt_of_cell? _ _ h)).trans h
theorem frz_alloc {w : World} {p : Addr} {x : Bool} (hl : p.block < w.heap.size) (h : w.frozen? p = x) (o : Obj) : (w.alloc o).frozen? p = x := (World.frozen?_alloc_old _ _ _ (Nat.ne_of_lt hl)).trans h
theorem ext_alloc_set {w : World} {b i : Nat} (hl : b < w.heap.size) (v : Value) (o : Obj) (S : Nat → Prop) : Ext (w.setCell ⟨b, i, none⟩ v) ((w.alloc o).setCell ⟨b, i, none⟩ v) S := by
  rw [World.setCell_alloc_past _ _ _ _ hl]; exact (Ext.refl _ _).alloc _
theorem ext_alloc_set2 {w : World} {b i j : Nat} (hl : b < w.heap.size) (u v : Value) (o : Obj) (S : Nat → Prop) :
    Ext ((w.setCell ⟨b, i, none⟩ u).setCell ⟨b, j, none⟩ v) (((w.alloc o).setCell ⟨b, i, none⟩ u).setCell ⟨b, j, none⟩ v) S := by
  rw [World.setCell_alloc_past _ _ _ _ hl, World.setCell_alloc_past _ _ _ _ (by simpa using hl)]; exact (Ext.refl _ _).alloc _

/-! ### Numbers of 64 bits -/
def W64 (x : Int) : Prop := 0 ≤ x ∧ x < 18446744073709551616
def B01 (x : Int) : Prop := x = 0 ∨ x = 1
def as64 (x y c : Int) : Int := (x + y + c) % 18446744073709551616
def ac64 (x y c : Int) : Int := if x + y + c < 18446744073709551616 then 0 else 1
def ss64 (x y c : Int) : Int := (x - y - c) % 18446744073709551616
def sc64 (x y c : Int) : Int := if x < y + c then 1 else 0
def hi64 (x y : Int) : Int := x * y / 18446744073709551616 % 18446744073709551616
def lo64 (x y : Int) : Int := x * y % 18446744073709551616
def cmv64 (b x y : Int) : Int := if b = 0 then x else y
theorem W64.as (x y c : Int) : W64 (as64 x y c) := by unfold W64 as64; omega
theorem W64.ss (x y c : Int) : W64 (ss64 x y c) := by unfold W64 ss64; omega
theorem W64.lo (x y : Int) : W64 (lo64 x y) := by unfold W64 lo64; omega
theorem W64.hi (x y : Int) : W64 (hi64 x y) := by unfold W64 hi64; omega
theorem W64.cmv {b x y : Int} (hx : W64 x) (hy : W64 y) : W64 (cmv64 b x y) := by unfold cmv64; split <;> assumption
theorem B01.ac (x y c : Int) : B01 (ac64 x y c) := by unfold B01 ac64; split <;> simp
theorem B01.sc (x y c : Int) : B01 (sc64 x y c) := by unfold B01 sc64; split <;> simp
theorem B01.w {x : Int} (h : B01 x) : W64 x := by rcases h with rfl | rfl <;> unfold W64 <;> omega
theorem W64.ac (x y c : Int) : W64 (ac64 x y c) := (B01.ac x y c).w
theorem W64.sc (x y c : Int) : W64 (sc64 x y c) := (B01.sc x y c).w
theorem ac64_eq {x y c : Int} (hx : W64 x) (hy : W64 y) (hc : B01 c) : ac64 x y c = (x + y + c) / 18446744073709551616 := by
  obtain ⟨x0, x1⟩ := hx; obtain ⟨y0, y1⟩ := hy; rcases hc with rfl | rfl <;> unfold ac64 <;> split <;> omega
theorem hi64_eq {x y : Int} (hx : W64 x) (hy : W64 y) : hi64 x y = x * y / 18446744073709551616 := by
  obtain ⟨x0, x1⟩ := hx; obtain ⟨y0, y1⟩ := hy
  unfold hi64
  have h0 := Int.mul_nonneg x0 y0
  have h1 : x * y ≤ 18446744073709551615 * 18446744073709551615 := Int.mul_le_mul (by omega) (by omega) y0 (by decide)
  omega
theorem B01.zero : B01 0 := .inl rfl
theorem W64.zero : W64 0 := by unfold W64; omega
theorem B01.one : B01 1 := .inr rfl
end Go.Proofs.YtlmmdldjfpdcfaaGreatDoor

/-
  The library's numbers of two words as the model answers them (math/bits.Add64, Sub64, Mul64), and the choice without a branch.
-/
namespace Go.Proofs.YtlmmdldjfpdcfaaGreatDoor
open Go.RowKit

theorem add64 {x y c : Int} (hx : W64 x) (hy : W64 y) (hc : B01 c) (w : World) : (callFunc 41 #[.int .u64 x, .int .u64 y, .int .u64 c]).run Tryz.prog w =
    .ok (.value (.tuple #[.int .u64 (as64 x y c), .int .u64 (ac64 x y c)])) w := by
  rw [run_callFunc_extern Tryz.func41 (by kernel_rfl) (by kernel_rfl) (by kernel_rfl) (e := add64Entry) (by kernel_rfl)]
  rw [run_add64 x y c hx.1 hy.1 (by rcases hc with rfl | rfl <;> decide) (by rcases hc with rfl | rfl <;> decide)]
  rw [ac64_eq hx hy hc]
  rfl

theorem sub64 {x y b : Int} (hx : W64 x) (hy : W64 y) (hb : B01 b) (w : World) : (callFunc 42 #[.int .u64 x, .int .u64 y, .int .u64 b]).run Tryz.prog w =
    .ok (.value (.tuple #[.int .u64 (ss64 x y b), .int .u64 (sc64 x y b)])) w := by
  obtain ⟨x0, x1⟩ := hx
  obtain ⟨y0, y1⟩ := hy
  obtain ⟨x, rfl⟩ := Int.eq_ofNat_of_zero_le x0
  obtain ⟨y, rfl⟩ := Int.eq_ofNat_of_zero_le y0
  obtain ⟨b, rfl⟩ := Int.eq_ofNat_of_zero_le (a := b) (by rcases hb with rfl | rfl <;> decide)
  have hb1 : b ≤ 1 := by rcases hb with h | h <;> omega
  have e1 : (((x + 18446744073709551616 - y - b) % 18446744073709551616 : Nat) : Int) = ss64 x y b := by unfold ss64; omega
  have e2 : ((if x < y + b then 1 else 0 : Nat) : Int) = sc64 x y b := by unfold sc64; split <;> split <;> omega
  rw [run_callFunc_extern Tryz.func42 (by kernel_rfl) (by kernel_rfl) (by kernel_rfl) (e := sub64Entry) (by kernel_rfl), run_sub64 x y b hb1, e1, e2]
  rfl

namespace Mul64
theorem maskN (a : Nat) (ha : a < 18446744073709551616) : bits .and .u64 (a : Int) 4294967295 = ((a % 4294967296 : Nat) : Int) := by
  have h := bits_and_u64_nat a 4294967295 ha (by omega)
  have e : a &&& 4294967295 = a % 4294967296 := Nat.and_two_pow_sub_one_eq_mod a 32
  rw [e] at h
  exact h
theorem divN (a : Nat) : (a : Int) / 4294967296 = ((a / 4294967296 : Nat) : Int) := by omega
theorem mulN (a b : Nat) : (a : Int) * (b : Int) = ((a * b : Nat) : Int) := (Int.natCast_mul a b).symm
theorem addN (a b : Nat) : (a : Int) + (b : Int) = ((a + b : Nat) : Int) := (Int.natCast_add a b).symm
theorem wrapN (a : Nat) (ha : a < 18446744073709551616) : IntKind.u64.wrap (a : Int) = (a : Int) := by rw [IntKind.wrap_u64]; omega
theorem wrapM (a : Nat) : IntKind.u64.wrap (a : Int) = ((a % 18446744073709551616 : Nat) : Int) := by rw [IntKind.wrap_u64]; omega
end Mul64

set_option maxHeartbeats 1000000 in
theorem mul64_nat (x y : Nat) (hx : x < 18446744073709551616) (hy : y < 18446744073709551616) (w : World) :
    Calls Tryz.prog 121 #[.int .u64 x, .int .u64 y] w fun e w' => e = .returned (.tuple #[.int .u64 ((x * y / 18446744073709551616 : Nat) : Int), .int .u64 ((x * y % 18446744073709551616 : Nat) : Int)]) ∧ w = w' := by
  obtain ⟨bd, bt, bw, hhi⟩ := Lib.mul64_hi x y hx hy
  have ba := Lib.half_mul_le (a := x / 4294967296) (b := y / 4294967296) (by omega) (by omega)
  have bb := Lib.half_mul_le (a := x / 4294967296) (b := y % 4294967296) (by omega) (by omega)
  have bc := Lib.half_mul_le (a := x % 4294967296) (b := y / 4294967296) (by omega) (by omega)
  have ba' : x / 4294967296 * (y / 4294967296) < 18446744073709551616 := by omega
  have bb' : x / 4294967296 * (y % 4294967296) < 18446744073709551616 := by omega
  have bc' : x % 4294967296 * (y / 4294967296) < 18446744073709551616 := by omega
  have bh1 : x / 4294967296 * (y / 4294967296) + (x / 4294967296 * (y % 4294967296) + x % 4294967296 * (y % 4294967296) / 4294967296) / 4294967296 < 18446744073709551616 := by omega
  have bh : x / 4294967296 * (y / 4294967296) + (x / 4294967296 * (y % 4294967296) + x % 4294967296 * (y % 4294967296) / 4294967296) / 4294967296 + ((x / 4294967296 * (y % 4294967296) + x % 4294967296 * (y % 4294967296) / 4294967296) % 4294967296 + x % 4294967296 * (y / 4294967296)) / 4294967296 < 18446744073709551616 := by omega
  go_enter Tryz.func121, Tryz.ntmps121
  go_wp2
  simp only [Mul64.maskN x hx, Mul64.maskN y hy, Mul64.divN, Mul64.mulN, Mul64.addN, Mul64.wrapN _ bd, Mul64.wrapN _ bb', Mul64.wrapN _ bt, Mul64.maskN _ bt, Mul64.wrapN _ bc', Mul64.wrapN _ bw, Mul64.wrapN _ ba', Mul64.wrapN _ bh1, Mul64.wrapN _ bh, Mul64.wrapM (x * y)]
  rw [hhi]
  go_ret2
  exact ⟨rfl, rfl⟩

theorem mul64 {x y : Int} (hx : W64 x) (hy : W64 y) (w : World) :
    Calls Tryz.prog 121 #[.int .u64 x, .int .u64 y] w fun e w' => e = .returned (.tuple #[.int .u64 (hi64 x y), .int .u64 (lo64 x y)]) ∧ w = w' := by
  rw [hi64_eq hx hy]
  obtain ⟨x0, x1⟩ := hx
  obtain ⟨y0, y1⟩ := hy
  obtain ⟨x, rfl⟩ := Int.eq_ofNat_of_zero_le x0
  obtain ⟨y, rfl⟩ := Int.eq_ofNat_of_zero_le y0
  have e1 : ((x * y / 18446744073709551616 : Nat) : Int) = (x : Int) * (y : Int) / 18446744073709551616 := by simp
  have e2 : ((x * y % 18446744073709551616 : Nat) : Int) = lo64 x y := by unfold lo64; simp
  rw [← e1, ← e2]
  exact mul64_nat x y (by omega) (by omega) w

/-! ### The choice -/
theorem all_ones (x : Int) (h : W64 x) : bits .and .u64 x 18446744073709551615 = x := by
  obtain ⟨x0, x1⟩ := h
  obtain ⟨x, rfl⟩ := Int.eq_ofNat_of_zero_le x0
  have h := bits_and_u64_nat x 18446744073709551615 (by omega) (by omega)
  have e : x &&& 18446744073709551615 = x % 18446744073709551616 := Nat.and_two_pow_sub_one_eq_mod x 64
  rw [e, Nat.mod_eq_of_lt (by omega)] at h
  exact h
theorem and_none (x : Int) (h : W64 x) : bits .and .u64 x 0 = 0 := by
  obtain ⟨x0, x1⟩ := h
  obtain ⟨x, rfl⟩ := Int.eq_ofNat_of_zero_le x0
  have h := bits_and_u64_nat x 0 (by omega) (by omega)
  rw [Nat.and_zero] at h
  exact h
theorem or_none (x : Int) (h : W64 x) : bits .or .u64 x 0 = x := by
  obtain ⟨x0, x1⟩ := h
  obtain ⟨x, rfl⟩ := Int.eq_ofNat_of_zero_le x0
  have h := bits_or_u64_nat x 0 (by omega) (by omega)
  rw [Nat.or_zero] at h
  exact h
theorem none_or (x : Int) (h : W64 x) : bits .or .u64 0 x = x := by
  obtain ⟨x0, x1⟩ := h
  obtain ⟨x, rfl⟩ := Int.eq_ofNat_of_zero_le x0
  have h := bits_or_u64_nat 0 x (by omega) (by omega)
  rw [Nat.zero_or] at h
  exact h
theorem andNot_none (x : Int) (h : W64 x) : bits .andNot .u64 x 0 = x := by
  have e : bits .andNot .u64 x 0 = bits .and .u64 x 18446744073709551615 := by
    simp only [bits]
    rfl
  rw [e, all_ones x h]
theorem andNot_ones (x : Int) (h : W64 x) : bits .andNot .u64 x 18446744073709551615 = 0 := by
  have e : bits .andNot .u64 x 18446744073709551615 = bits .and .u64 x 0 := by
    simp only [bits]
    rfl
  rw [e, and_none x h]
theorem neg_zero64 : IntKind.u64.wrap (-0) = 0 := by decide
theorem neg_one64 : IntKind.u64.wrap (-1) = 18446744073709551615 := by decide
theorem cmv_bits {b x y : Int} (hb : B01 b) (hx : W64 x) (hy : W64 y) :
    bits .or .u64 (bits .andNot .u64 x (IntKind.u64.wrap (-b))) (bits .and .u64 y (IntKind.u64.wrap (-b))) = cmv64 b x y := by
  rcases hb with rfl | rfl
  · rw [neg_zero64, andNot_none x hx, and_none y hy, or_none x hx]; rfl
  · rw [neg_one64, andNot_ones x hx, all_ones y hy, none_or y hy]; rfl

/-- fp64's choice: the word at the pointer becomes one of two. -/
theorem cmov64 {z o : Nat} {v : Value} {b x y : Int} {w : World} (hb : B01 b) (hx : W64 x) (hy : W64 y) (hc : w.cell? ⟨z, o, none⟩ = some v) (hf : w.frozen? ⟨z, o, none⟩ = false) :
    Calls Tryz.prog 120 #[.pointer (some ⟨z, o, none⟩), .int .u64 b, .int .u64 x, .int .u64 y] w fun e w' =>
      e = .returned (.tuple #[]) ∧ w.setCell ⟨z, o, none⟩ (.int .u64 (cmv64 b x y)) = w' := by
  have E := Lib.hid (cmv_bits hb hx hy)
  go_enter Tryz.func120, Tryz.ntmps120
  go_wp2
  go_end0
  exact ⟨rfl, by rw [E.out]⟩
/-- fp128's. -/
theorem cmov128 {z o : Nat} {v : Value} {b x y : Int} {w : World} (hb : B01 b) (hx : W64 x) (hy : W64 y) (hc : w.cell? ⟨z, o, none⟩ = some v) (hf : w.frozen? ⟨z, o, none⟩ = false) :
    Calls Tryz.prog 127 #[.pointer (some ⟨z, o, none⟩), .int .u64 b, .int .u64 x, .int .u64 y] w fun e w' =>
      e = .returned (.tuple #[]) ∧ w.setCell ⟨z, o, none⟩ (.int .u64 (cmv64 b x y)) = w' := by
  have E := Lib.hid (cmv_bits hb hx hy)
  go_enter Tryz.func127, Tryz.ntmps127
  go_wp2
  go_end0
  exact ⟨rfl, by rw [E.out]⟩
/-- The same at a block that has just been laid. -/
theorem cmov64_new (w : World) (t : TypeId) (v : Value) {b x y : Int} (hb : B01 b) (hx : W64 x) (hy : W64 y) :
    Calls Tryz.prog 120 #[.pointer (some ⟨w.heap.size, 0, none⟩), .int .u64 b, .int .u64 x, .int .u64 y] (w.alloc (.cells #[v] t)) fun e w' =>
      e = .returned (.tuple #[]) ∧ w.alloc (.cells #[.int .u64 (cmv64 b x y)] t) = w' :=
  (cmov64 hb hx hy (blk_cell (blk_new _ _) 0) (blk_frz (blk_new _ _) 0)).mono fun e w' h => ⟨h.1, by rw [← h.2, World.setCell_alloc_at _ _ _ _ _ rfl]; rfl⟩
theorem cmov128_new (w : World) (t : TypeId) (v : Value) {b x y : Int} (hb : B01 b) (hx : W64 x) (hy : W64 y) :
    Calls Tryz.prog 127 #[.pointer (some ⟨w.heap.size, 0, none⟩), .int .u64 b, .int .u64 x, .int .u64 y] (w.alloc (.cells #[v] t)) fun e w' =>
      e = .returned (.tuple #[]) ∧ w.alloc (.cells #[.int .u64 (cmv64 b x y)] t) = w' :=
  (cmov128 hb hx hy (blk_cell (blk_new _ _) 0) (blk_frz (blk_new _ _) 0)).mono fun e w' h => ⟨h.1, by rw [← h.2, World.setCell_alloc_at _ _ _ _ _ rfl]; rfl⟩
theorem cmov64_newN (w : World) (n : Nat) (t : TypeId) (v : Value) {b x y : Int} (hb : B01 b) (hx : W64 x) (hy : W64 y) :
    Calls Tryz.prog 120 #[.pointer (some ⟨w.heap.size, 0, none⟩), .int .u64 b, .int .u64 x, .int .u64 y] ((w.alloc (.cells #[v] t)).drewN n) fun e w' =>
      e = .returned (.tuple #[]) ∧ (w.alloc (.cells #[.int .u64 (cmv64 b x y)] t)).drewN n = w' := cmov64_new (w.drewN n) t v hb hx hy
theorem cmov128_newN (w : World) (n : Nat) (t : TypeId) (v : Value) {b x y : Int} (hb : B01 b) (hx : W64 x) (hy : W64 y) :
    Calls Tryz.prog 127 #[.pointer (some ⟨w.heap.size, 0, none⟩), .int .u64 b, .int .u64 x, .int .u64 y] ((w.alloc (.cells #[v] t)).drewN n) fun e w' =>
      e = .returned (.tuple #[]) ∧ (w.alloc (.cells #[.int .u64 (cmv64 b x y)] t)).drewN n = w' := cmov128_new (w.drewN n) t v hb hx hy
theorem cmov64_at (w : World) (n : Nat) (t : TypeId) (v : Value) {g : Nat} (hg : g = w.heap.size) {b x y : Int} (hb : B01 b) (hx : W64 x) (hy : W64 y) :
    Calls Tryz.prog 120 #[.pointer (some ⟨g, 0, none⟩), .int .u64 b, .int .u64 x, .int .u64 y] ((w.alloc (.cells #[v] t)).drewN n) fun e w' =>
      e = .returned (.tuple #[]) ∧ (w.alloc (.cells #[.int .u64 (cmv64 b x y)] t)).drewN n = w' := by subst hg; exact cmov64_newN w n t v hb hx hy
theorem cmov64_at0 (w : World) (t : TypeId) (v : Value) {g : Nat} (hg : g = w.heap.size) {b x y : Int} (hb : B01 b) (hx : W64 x) (hy : W64 y) :
    Calls Tryz.prog 120 #[.pointer (some ⟨g, 0, none⟩), .int .u64 b, .int .u64 x, .int .u64 y] (w.alloc (.cells #[v] t)) fun e w' =>
      e = .returned (.tuple #[]) ∧ w.alloc (.cells #[.int .u64 (cmv64 b x y)] t) = w' := by subst hg; exact cmov64_new w t v hb hx hy
theorem cmov128_at (w : World) (n : Nat) (t : TypeId) (v : Value) {g : Nat} (hg : g = w.heap.size) {b x y : Int} (hb : B01 b) (hx : W64 x) (hy : W64 y) :
    Calls Tryz.prog 127 #[.pointer (some ⟨g, 0, none⟩), .int .u64 b, .int .u64 x, .int .u64 y] ((w.alloc (.cells #[v] t)).drewN n) fun e w' =>
      e = .returned (.tuple #[]) ∧ (w.alloc (.cells #[.int .u64 (cmv64 b x y)] t)).drewN n = w' := by subst hg; exact cmov128_newN w n t v hb hx hy
theorem cmov128_at0 (w : World) (t : TypeId) (v : Value) {g : Nat} (hg : g = w.heap.size) {b x y : Int} (hb : B01 b) (hx : W64 x) (hy : W64 y) :
    Calls Tryz.prog 127 #[.pointer (some ⟨g, 0, none⟩), .int .u64 b, .int .u64 x, .int .u64 y] (w.alloc (.cells #[v] t)) fun e w' =>
      e = .returned (.tuple #[]) ∧ w.alloc (.cells #[.int .u64 (cmv64 b x y)] t) = w' := by subst hg; exact cmov128_new w t v hb hx hy
end Go.Proofs.YtlmmdldjfpdcfaaGreatDoor

/-
  fp64's words: what its sum and its product are, word for word, and that the code computes them.
-/
namespace Go.Proofs.YtlmmdldjfpdcfaaGreatDoor
open Go.RowKit
attribute [local go_sem] add64 sub64 W64.as W64.ss W64.ac W64.sc W64.lo W64.hi B01.ac B01.sc B01.zero B01.one W64.zero

theorem W64.p64 : W64 18446744069414584321 := by unfold W64; omega
theorem W64.q64 : W64 18446744069414584319 := by unfold W64; omega
attribute [local go_sem] W64.p64 W64.q64

def add64f (x y : Int) : Int := cmv64 (sc64 (ac64 x y 0) 0 (sc64 (as64 x y 0) 18446744069414584321 0)) (ss64 (as64 x y 0) 18446744069414584321 0) (as64 x y 0)
def mul64f (x y : Int) : Int :=
  let x2 := lo64 x y
  let x3 := hi64 x y
  let x4 := lo64 x2 18446744069414584319
  let x6 := lo64 x4 18446744069414584321
  let x7 := hi64 x4 18446744069414584321
  let x9 := ac64 x2 x6 0
  let x10 := as64 x3 x7 x9
  let x11 := ac64 x3 x7 x9
  cmv64 (sc64 x11 0 (sc64 x10 18446744069414584321 0)) (ss64 x10 18446744069414584321 0) x10

set_option maxRecDepth 100000 in
theorem add_fp64 {bo oo ba oa bb ob : Nat} {vo : Value} {x y : Int} {w : World} (hx : W64 x) (hy : W64 y)
    (hco : w.cell? ⟨bo, oo, none⟩ = some vo) (hfo : w.frozen? ⟨bo, oo, none⟩ = false) (hca : w.cell? ⟨ba, oa, none⟩ = some (.int .u64 x)) (hcb : w.cell? ⟨bb, ob, none⟩ = some (.int .u64 y)) :
    Calls Tryz.prog 110 #[.pointer (some ⟨bo, oo, none⟩), .pointer (some ⟨ba, oa, none⟩), .pointer (some ⟨bb, ob, none⟩)] w fun e w' =>
      e = .returned (.tuple #[]) ∧ Ext (w.setCell ⟨bo, oo, none⟩ (.int .u64 (add64f x y))) w' No := by
  have lo : bo < w.heap.size := World.block_lt_of_cell? _ _ hco
  have la : ba < w.heap.size := World.block_lt_of_cell? _ _ hca
  have lb : bb < w.heap.size := World.block_lt_of_cell? _ _ hcb
  go_enter Tryz.func110, Tryz.ntmps110
  go_wp2_with fail
  go_quiet (fail)
  go_wp2_with (go_at_call 120; refine (cmov64_newN _ _ _ _ (B01.sc _ _ _) (W64.ss _ _ _) (W64.as _ _ _)).mono ?_; rintro e w' ⟨rfl, rfl⟩)
  go_region
  go_end0
  exact ⟨rfl, ((Ext.refl _ _).alloc _).drewN _⟩

set_option maxRecDepth 100000 in
theorem mul_fp64 {bo oo ba oa bb ob : Nat} {vo : Value} {x y : Int} {w : World} (hx : W64 x) (hy : W64 y)
    (hco : w.cell? ⟨bo, oo, none⟩ = some vo) (hfo : w.frozen? ⟨bo, oo, none⟩ = false) (hca : w.cell? ⟨ba, oa, none⟩ = some (.int .u64 x)) (hcb : w.cell? ⟨bb, ob, none⟩ = some (.int .u64 y)) :
    Calls Tryz.prog 106 #[.pointer (some ⟨bo, oo, none⟩), .pointer (some ⟨ba, oa, none⟩), .pointer (some ⟨bb, ob, none⟩)] w fun e w' =>
      e = .returned (.tuple #[]) ∧ Ext (w.setCell ⟨bo, oo, none⟩ (.int .u64 (mul64f x y))) w' No := by
  have lo : bo < w.heap.size := World.block_lt_of_cell? _ _ hco
  have la : ba < w.heap.size := World.block_lt_of_cell? _ _ hca
  have lb : bb < w.heap.size := World.block_lt_of_cell? _ _ hcb
  go_enter Tryz.func106, Tryz.ntmps106
  go_wp2_with (first
    | (go_at_call 121; refine (mul64 ?h1 ?h2 _).mono ?_; (case h1 => first | exact hx | exact W64.lo _ _); (case h2 => first | exact hy | exact W64.p64 | exact W64.q64); rintro e w' ⟨rfl, rfl⟩)
    | (go_at_call 120; refine (cmov64_new _ _ _ (B01.sc _ _ _) (W64.ss _ _ _) (W64.as _ _ _)).mono ?_; rintro e w' ⟨rfl, rfl⟩))
  go_region
  go_end0
  exact ⟨rfl, ((Ext.refl _ _).alloc _).drew⟩
end Go.Proofs.YtlmmdldjfpdcfaaGreatDoor

/-
  fp128's words: what its sum and its product are, word for word, and that the code computes them.
-/
namespace Go.Proofs.YtlmmdldjfpdcfaaGreatDoor
open Go.RowKit
attribute [local go_sem] add64 sub64 W64.as W64.ss W64.ac W64.sc W64.lo W64.hi B01.ac B01.sc B01.zero B01.one W64.zero

theorem W64.one : W64 1 := by unfold W64; omega
theorem W64.p128 : W64 18446744073709551588 := by unfold W64; omega
theorem W64.m128 : W64 18446744073709551615 := by unfold W64; omega
theorem W64.wr (x : Int) : W64 (IntKind.u64.wrap x) := by rw [IntKind.wrap_u64]; unfold W64; omega
attribute [local go_sem] W64.one W64.p128 W64.m128 W64.wr

/-- The sum of two numbers of two words (low, high), brought below the prime: its low word and its high one. -/
def add128c (x0 x1 y0 y1 : Int) : Int := sc64 (ac64 x1 y1 (ac64 x0 y0 0)) 0 (sc64 (as64 x1 y1 (ac64 x0 y0 0)) 18446744073709551588 (sc64 (as64 x0 y0 0) 1 0))
def add128l (x0 x1 y0 y1 : Int) : Int := cmv64 (add128c x0 x1 y0 y1) (ss64 (as64 x0 y0 0) 1 0) (as64 x0 y0 0)
def add128h (x0 x1 y0 y1 : Int) : Int := cmv64 (add128c x0 x1 y0 y1) (ss64 (as64 x1 y1 (ac64 x0 y0 0)) 18446744073709551588 (sc64 (as64 x0 y0 0) 1 0)) (as64 x1 y1 (ac64 x0 y0 0))

set_option maxRecDepth 100000 in
theorem add_fp128 {bo oo ba oa bb ob : Nat} {vo vo' : Value} {x0 x1 y0 y1 : Int} {w : World} (hx0 : W64 x0) (hx1 : W64 x1) (hy0 : W64 y0) (hy1 : W64 y1)
    (hco : w.cell? ⟨bo, oo, none⟩ = some vo) (hfo : w.frozen? ⟨bo, oo, none⟩ = false) (hco' : w.cell? ⟨bo, oo + 1, none⟩ = some vo') (hfo' : w.frozen? ⟨bo, oo + 1, none⟩ = false)
    (hca : w.cell? ⟨ba, oa, none⟩ = some (.int .u64 x0)) (hca' : w.cell? ⟨ba, oa + 1, none⟩ = some (.int .u64 x1))
    (hcb : w.cell? ⟨bb, ob, none⟩ = some (.int .u64 y0)) (hcb' : w.cell? ⟨bb, ob + 1, none⟩ = some (.int .u64 y1)) :
    Calls Tryz.prog 116 #[.pointer (some ⟨bo, oo, none⟩), .pointer (some ⟨ba, oa, none⟩), .pointer (some ⟨bb, ob, none⟩)] w fun e w' =>
      e = .returned (.tuple #[]) ∧ Ext ((w.setCell ⟨bo, oo, none⟩ (.int .u64 (add128l x0 x1 y0 y1))).setCell ⟨bo, oo + 1, none⟩ (.int .u64 (add128h x0 x1 y0 y1))) w' No := by
  have lo : bo < w.heap.size := World.block_lt_of_cell? _ _ hco
  have la : ba < w.heap.size := World.block_lt_of_cell? _ _ hca
  have lb : bb < w.heap.size := World.block_lt_of_cell? _ _ hcb
  go_enter Tryz.func116, Tryz.ntmps116
  go_wp2_with fail
  go_quiet (fail)
  go_wp2_with fail
  go_quiet (fail)
  go_wp2_with (go_at_call 127; refine (cmov128_at _ _ _ _ ?hg (B01.sc _ _ _) (W64.ss _ _ _) (W64.as _ _ _)).mono ?_; (case hg => simp [go_sem]); rintro e w' ⟨rfl, rfl⟩)
  go_region
  go_wp2
  go_region
  go_end0
  exact ⟨rfl, (((Ext.refl _ _).alloc _).alloc _).drewN _⟩

def mul128V (x0 x1 y0 y1 : Int) : Int × Int × Int :=
  let x4 := hi64 x0 y1
  let x3 := lo64 x0 y1
  let x6 := hi64 x0 y0
  let x5 := lo64 x0 y0
  let x7 := as64 x6 x3 0
  let x8 := ac64 x6 x3 0
  let x9 := IntKind.u64.wrap (x8 + x4)
  let x10 := lo64 x5 18446744073709551615
  let x13 := hi64 x10 18446744073709551588
  let x12 := lo64 x10 18446744073709551588
  let x15 := ac64 x5 x10 0
  let x16 := as64 x7 x12 x15
  let x17 := ac64 x7 x12 x15
  let x18 := as64 x9 x13 x17
  let x19 := ac64 x9 x13 x17
  let x21 := hi64 x1 y1
  let x20 := lo64 x1 y1
  let x23 := hi64 x1 y0
  let x22 := lo64 x1 y0
  let x24 := as64 x23 x20 0
  let x25 := ac64 x23 x20 0
  let x26 := IntKind.u64.wrap (x25 + x21)
  let x27 := as64 x16 x22 0
  let x28 := ac64 x16 x22 0
  let x29 := as64 x18 x24 x28
  let x30 := ac64 x18 x24 x28
  let x31 := as64 x19 x26 x30
  let x32 := ac64 x19 x26 x30
  let x33 := lo64 x27 18446744073709551615
  let x36 := hi64 x33 18446744073709551588
  let x35 := lo64 x33 18446744073709551588
  let x38 := ac64 x27 x33 0
  let x39 := as64 x29 x35 x38
  let x40 := ac64 x29 x35 x38
  let x41 := as64 x31 x36 x40
  let x42 := ac64 x31 x36 x40
  (x39, x41, IntKind.u64.wrap (x42 + x32))

/-- A number of three words, brought below the prime: its low word and its high one. -/
def red128c (v0 v1 v2 : Int) : Int := sc64 v2 0 (sc64 v1 18446744073709551588 (sc64 v0 1 0))
def red128l (v0 v1 v2 : Int) : Int := cmv64 (red128c v0 v1 v2) (ss64 v0 1 0) v0
def red128h (v0 v1 v2 : Int) : Int := cmv64 (red128c v0 v1 v2) (ss64 v1 18446744073709551588 (sc64 v0 1 0)) v1
def mul128l (x0 x1 y0 y1 : Int) : Int := red128l (mul128V x0 x1 y0 y1).1 (mul128V x0 x1 y0 y1).2.1 (mul128V x0 x1 y0 y1).2.2
def mul128h (x0 x1 y0 y1 : Int) : Int := red128h (mul128V x0 x1 y0 y1).1 (mul128V x0 x1 y0 y1).2.1 (mul128V x0 x1 y0 y1).2.2

set_option maxRecDepth 100000 in
set_option maxHeartbeats 4000000 in
theorem mul_fp128 {bo oo ba oa bb ob : Nat} {vo vo' : Value} {x0 x1 y0 y1 : Int} {w : World} (hx0 : W64 x0) (hx1 : W64 x1) (hy0 : W64 y0) (hy1 : W64 y1)
    (hco : w.cell? ⟨bo, oo, none⟩ = some vo) (hfo : w.frozen? ⟨bo, oo, none⟩ = false) (hco' : w.cell? ⟨bo, oo + 1, none⟩ = some vo') (hfo' : w.frozen? ⟨bo, oo + 1, none⟩ = false)
    (hca : w.cell? ⟨ba, oa, none⟩ = some (.int .u64 x0)) (hca' : w.cell? ⟨ba, oa + 1, none⟩ = some (.int .u64 x1))
    (hcb : w.cell? ⟨bb, ob, none⟩ = some (.int .u64 y0)) (hcb' : w.cell? ⟨bb, ob + 1, none⟩ = some (.int .u64 y1)) :
    Calls Tryz.prog 117 #[.pointer (some ⟨bo, oo, none⟩), .pointer (some ⟨ba, oa, none⟩), .pointer (some ⟨bb, ob, none⟩)] w fun e w' =>
      e = .returned (.tuple #[]) ∧ Ext ((w.setCell ⟨bo, oo, none⟩ (.int .u64 (mul128l x0 x1 y0 y1))).setCell ⟨bo, oo + 1, none⟩ (.int .u64 (mul128h x0 x1 y0 y1))) w' No := by
  have lo : bo < w.heap.size := World.block_lt_of_cell? _ _ hco
  have la : ba < w.heap.size := World.block_lt_of_cell? _ _ hca
  have lb : bb < w.heap.size := World.block_lt_of_cell? _ _ hcb
  go_enter Tryz.func117, Tryz.ntmps117
  go_wp2_with (first
    | (go_at_call 121; refine (mul64 ?h1 ?h2 _).mono ?_; (case h1 => first | exact hx0 | exact hx1 | exact W64.lo _ _ | exact W64.as _ _ _); (case h2 => first | exact hy0 | exact hy1 | exact W64.p128 | exact W64.m128); rintro e w' ⟨rfl, rfl⟩)
    | (go_at_call 127; refine (cmov128_at0 _ _ _ ?hg (B01.sc _ _ _) (W64.ss _ _ _) (W64.as _ _ _)).mono ?_; (case hg => simp [go_sem]); rintro e w' ⟨rfl, rfl⟩))
  go_region
  go_wp2
  go_region
  go_end0
  exact ⟨rfl, by repeat (first | exact Ext.refl _ _ | apply Ext.drewN | apply Ext.drew | apply Ext.alloc)⟩
end Go.Proofs.YtlmmdldjfpdcfaaGreatDoor
