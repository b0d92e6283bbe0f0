/-
  The proof systems' methods, looked up: a method of a struct that lies inside another, by value.
-/
import Derived.Test.YtlmmdldjfpdcfaaGreatDoorM10
namespace Go.Proofs.YtlmmdldjfpdcfaaGreatDoor
open Go.RowKit

def lookOf (P : Program) (t : TypeId) (name : String) : Option (List FieldStep × Option (FuncId × Bool)) :=
  (P.info? t).bind fun ti => (ti.methods.find? (·.name == name)).map fun m => (m.path.toList, m.func)

theorem method_value (f : Nat) {t g xt : Nat} {v u : Value} {name : String} {a : Addr} {w : World} {fs : Array Field} (hL : (lookOf Tryz.prog t name).map (·.2) = some (some (g, false)))
    (hF : (lookOf Tryz.prog t name).map (fun x => (follow x.1 t (.val v)).run Tryz.prog w) = some (.ok (xt, .var a) w)) (hU : Tryz.prog.underlying xt = some (.struct fs)) (hl : (loadVar xt a).run Tryz.prog w = .ok u w) :
    (method (f + 1) t v name).run Tryz.prog w = .ok (g, u) w := by
  unfold lookOf at hL hF
  cases hi : Tryz.prog.info? t with
  | none => rw [hi] at hL; simp at hL
  | some ti =>
    rw [hi] at hL hF
    simp only [Option.bind_some] at hL hF
    cases hm : ti.methods.find? (·.name == name) with
    | none => rw [hm] at hL; simp at hL
    | some m =>
      rw [hm] at hL hF
      simp only [Option.map_some, Option.some.injEq] at hL hF
      simp [method, typeInfo, hi, hm, hF, hL, receiverAt, run_underlying hU, Place.get, hl, Result.andThen]

/-! ### A proof system's block -/
def u64c (cs : Array Value) (i : Nat) : Prop := ∃ n : Nat, cs[i]? = some (.int .u64 (n : Nat)) ∧ n < 18446744073709551616
theorem u64c_int {cs : Array Value} {i : Nat} {z : Int} (h : cs[i]? = some (.int .u64 z)) (h0 : 0 ≤ z ∧ z < 18446744073709551616) : u64c cs i := ⟨z.toNat, by rw [h]; congr 2; omega, by omega⟩
theorem u64c_wrap {cs : Array Value} {i : Nat} {z : Int} (h : cs[i]? = some (.int .u64 (IntKind.u64.wrap z))) : u64c cs i := u64c_int h (by rw [IntKind.wrap_u64]; omega)
/-- The block fb of a proof system: behind the cell gi its Params; the last of these is out. -/
def Flp (t : TypeId) (gi fb out : Nat) (w : World) : Prop := ∃ cs : Array Value, w.heap[fb]? = some (.cells cs t (0, 0)) ∧ (∀ i, 1 ≤ i → i ≤ gi + 3 → u64c cs i) ∧ cs[gi + 4]? = some (.int .u64 (out : Nat))
theorem Flp.ext {t : TypeId} {gi fb out : Nat} {w w' : World} {S : Nat → Prop} (h : Flp t gi fb out w) (hx : Ext w w' S) (hn : ¬ S fb) : Flp t gi fb out w' := by
  obtain ⟨cs, hb, r⟩ := h
  exact ⟨cs, hx.blk hb hn, r⟩
theorem Flp.extNo {t : TypeId} {gi fb out : Nat} {w w' : World} (h : Flp t gi fb out w) (hx : Ext w w' No) : Flp t gi fb out w' := h.ext hx (fun f => f)
theorem Flp.lt {t : TypeId} {gi fb out : Nat} {w : World} (h : Flp t gi fb out w) : fb < w.heap.size := by obtain ⟨cs, hb, -⟩ := h; exact lt_of_blk hb
theorem Flp.of1 {t : TypeId} {fb out : Nat} {w : World} {cs : Array Value} (hb : w.heap[fb]? = some (.cells cs t (0, 0))) (h1 : u64c cs 1) (h2 : u64c cs 2) (h3 : u64c cs 3) (h4 : u64c cs 4) (h5 : cs[5]? = some (.int .u64 (out : Nat))) : Flp t 1 fb out w := by
  refine ⟨cs, hb, fun i hi hi' => ?_, h5⟩
  match i, hi, hi' with
  | 1, _, _ => exact h1
  | 2, _, _ => exact h2
  | 3, _, _ => exact h3
  | 4, _, _ => exact h4
theorem Flp.of2 {t : TypeId} {fb out : Nat} {w : World} {cs : Array Value} (hb : w.heap[fb]? = some (.cells cs t (0, 0))) (h1 : u64c cs 1) (h2 : u64c cs 2) (h3 : u64c cs 3) (h4 : u64c cs 4) (h5 : u64c cs 5) (h6 : cs[6]? = some (.int .u64 (out : Nat))) : Flp t 2 fb out w := by
  refine ⟨cs, hb, fun i hi hi' => ?_, h6⟩
  match i, hi, hi' with
  | 1, _, _ => exact h1
  | 2, _, _ => exact h2
  | 3, _, _ => exact h3
  | 4, _, _ => exact h4
  | 5, _, _ => exact h5
end Go.Proofs.YtlmmdldjfpdcfaaGreatDoor

/-
  math/bits.Len64.
-/
namespace Go.Proofs.YtlmmdldjfpdcfaaGreatDoor
open Go.RowKit

/-- A table of the lengths of the numbers below 256, as a string: told by one reckoning. -/
def lenTab (s : ByteArray) : Bool := s.size == 256 && (List.range 256).all fun i => (s.data.getD i 0).toNat ≤ 8 && Nat.blt i (2 ^ (s.data.getD i 0).toNat) && (Nat.ble 128 i || Nat.ble (s.data.getD i 0).toNat 7)

theorem wpList_tab {ops : Array Oper} {rest : List Oper} {op : Oper} {a : Act} {Q : Exit → Act → World → Prop} {w : World} {s : ByteArray} (hgd : op.guard = none) (y : Operand) (ho : op.op = .index 9 (.const (.string s)) y)
    (z : Int) (i : Nat) (hy : a.eval y = .int .u8 z) (hz : z = (i : Nat)) (hi : i < 256) (hs : lenTab s = true)
    (hK : ∀ v : Nat, v ≤ 8 → i < 2 ^ v → (i < 128 → v ≤ 7) → wpList Tryz.prog ops Q rest (a.put op.dst (.int .u8 (v : Nat))) w) : wpList Tryz.prog ops Q (op :: rest) a w := by
  subst hz
  simp only [lenTab, Bool.and_eq_true, beq_iff_eq, List.all_eq_true, List.mem_range, decide_eq_true_eq, Bool.or_eq_true, Nat.blt_eq, Nat.ble_eq] at hs
  obtain ⟨hsz, hall⟩ := hs
  obtain ⟨⟨h1, h2⟩, h3⟩ := hall i hi
  have hK' := hK _ h1 h2 (fun h => by rcases h3 with h3 | h3 <;> omega)
  have hr := run_index_string (P := Tryz.prog) w 9 s .u8 i Tryz.underlying9
  have hsi : i < s.data.size := by have : s.data.size = 256 := hsz; omega
  have hr2 : (Instr.index 9 (.string s) (.int .u8 (i : Nat))).run Tryz.prog w = .ok (.int .u8 ((s.data.getD i 0).toNat : Nat)) w := by
    have hj : ∀ (j : Nat) (h : j < s.size), j = i → s[j]'h = s.data.getD i 0 := by
      intro j h e
      subst e
      rw [Array.getD_eq_getD_getElem?, Array.getElem?_eq_getElem hsi]
      rfl
    have hsz' : s.size = 256 := hsz
    rw [hr, dif_pos ⟨by omega, by omega⟩, hj _ _ (by omega)]
  have hc : a.eval (.const (.string s)) = .string s := rfl
  refine wpList_plain hgd fun K hK2 => ?_
  unfold Oper.wp execOp
  simp only [ho, hc, hy, Sem.run_bind, Sem.run_pure, Result.andThen_ok, hr2]
  exact hK2 _ _ hK'

theorem lenEnd {x s v y : Nat} (hy : x / 2 ^ s = y) (h : y < 2 ^ v) : x < 2 ^ (s + v) := by
  subst hy
  rw [Nat.pow_add]
  exact (Nat.div_lt_iff_lt_mul (Nat.pow_pos (by decide))).1 h |> fun h => by rw [Nat.mul_comm]; exact h
theorem len64 (x : Nat) (hx : x < 18446744073709551616) (w : World) : Calls Tryz.prog 39 #[.int .u64 (x : Nat)] w fun e w' => (∃ k : Nat, e = .returned (.int .i64 k) ∧ x < 2 ^ k ∧ k ≤ 64 ∧ (x < 9223372036854775808 → k ≤ 63)) ∧ w = w' := by
  go_enter Tryz.func39, Tryz.ntmps39
  generalize hs : ByteArray.mk _ = s
  have ht : lenTab s = true := by rw [← hs]; kernel_rfl
  clear hs
  have HT := Lib.hid ht; clear ht
  have HX := Lib.hid hx; clear hx
  by_cases h1 : 4294967296 ≤ x
  · by_cases h2 : 65536 ≤ x / 4294967296
    · by_cases h3 : 256 ≤ x / 281474976710656
      · have d1 : decide ((4294967296 : Int) ≤ (x : Int)) = true := decide_eq_true (by have := HX.out; omega)
        have d2 : decide ((65536 : Int) ≤ (x : Int) / 4294967296) = true := decide_eq_true (by have := HX.out; omega)
        have d3 : decide ((256 : Int) ≤ (x : Int) / 281474976710656) = true := decide_eq_true (by have := HX.out; omega)
        have d4 : decide ((256 : Int) ≤ (x : Int) / 4294967296 / 65536) = true := decide_eq_true (by have := HX.out; omega)
        have hq : x / 72057594037927936 < 256 := by have := HX.out; omega
        have HQ := Lib.hid hq; clear hq
        have H1 := Lib.hid h1; clear h1
        have H2 := Lib.hid h2; clear h2
        have H3 := Lib.hid h3; clear h3
        go_wp2_with ((with_reducible refine at_dst 22 ?_); (refine wpList_tab rfl (.tmp 21) rfl _ (x / 72057594037927936) rfl (by have := HQ.out; omega) HQ.out HT.out ?_); intro v hv1 hv2 hv3; have HV := Lib.hid hv2; clear hv2; have HW := Lib.hid hv3; clear hv3)
        go_ret
        exact ⟨⟨56 + v, by simp, lenEnd (by first | rfl | exact Nat.div_one _) HV.out, by omega, fun h => by have := HW.out; omega⟩, rfl⟩
      · have d1 : decide ((4294967296 : Int) ≤ (x : Int)) = true := decide_eq_true (by have := HX.out; omega)
        have d2 : decide ((65536 : Int) ≤ (x : Int) / 4294967296) = true := decide_eq_true (by have := HX.out; omega)
        have d3 : decide ((256 : Int) ≤ (x : Int) / 281474976710656) = false := decide_eq_false (by have := HX.out; omega)
        have d4 : decide ((256 : Int) ≤ (x : Int) / 4294967296 / 65536) = false := decide_eq_false (by have := HX.out; omega)
        have hq : x / 281474976710656 < 256 := by have := HX.out; omega
        have HQ := Lib.hid hq; clear hq
        have H1 := Lib.hid h1; clear h1
        have H2 := Lib.hid h2; clear h2
        have H3 := Lib.hid h3; clear h3
        go_wp2_with ((with_reducible refine at_dst 22 ?_); (refine wpList_tab rfl (.tmp 21) rfl _ (x / 281474976710656) rfl (by have := HQ.out; omega) HQ.out HT.out ?_); intro v hv1 hv2 hv3; have HV := Lib.hid hv2; clear hv2; have HW := Lib.hid hv3; clear hv3)
        go_ret
        exact ⟨⟨48 + v, by simp, lenEnd (by first | rfl | exact Nat.div_one _) HV.out, by omega, fun h => by have := HW.out; omega⟩, rfl⟩
    · by_cases h3 : 256 ≤ x / 4294967296
      · have d1 : decide ((4294967296 : Int) ≤ (x : Int)) = true := decide_eq_true (by have := HX.out; omega)
        have d2 : decide ((65536 : Int) ≤ (x : Int) / 4294967296) = false := decide_eq_false (by have := HX.out; omega)
        have d3 : decide ((256 : Int) ≤ (x : Int) / 4294967296) = true := decide_eq_true (by have := HX.out; omega)
        have hq : x / 1099511627776 < 256 := by have := HX.out; omega
        have HQ := Lib.hid hq; clear hq
        have H1 := Lib.hid h1; clear h1
        have H2 := Lib.hid h2; clear h2
        have H3 := Lib.hid h3; clear h3
        go_wp2_with ((with_reducible refine at_dst 22 ?_); (refine wpList_tab rfl (.tmp 21) rfl _ (x / 1099511627776) rfl (by have := HQ.out; omega) HQ.out HT.out ?_); intro v hv1 hv2 hv3; have HV := Lib.hid hv2; clear hv2; have HW := Lib.hid hv3; clear hv3)
        go_ret
        exact ⟨⟨40 + v, by simp, lenEnd (by first | rfl | exact Nat.div_one _) HV.out, by omega, fun h => by have := HW.out; omega⟩, rfl⟩
      · have d1 : decide ((4294967296 : Int) ≤ (x : Int)) = true := decide_eq_true (by have := HX.out; omega)
        have d2 : decide ((65536 : Int) ≤ (x : Int) / 4294967296) = false := decide_eq_false (by have := HX.out; omega)
        have d3 : decide ((256 : Int) ≤ (x : Int) / 4294967296) = false := decide_eq_false (by have := HX.out; omega)
        have hq : x / 4294967296 < 256 := by have := HX.out; omega
        have HQ := Lib.hid hq; clear hq
        have H1 := Lib.hid h1; clear h1
        have H2 := Lib.hid h2; clear h2
        have H3 := Lib.hid h3; clear h3
        go_wp2_with ((with_reducible refine at_dst 22 ?_); (refine wpList_tab rfl (.tmp 21) rfl _ (x / 4294967296) rfl (by have := HQ.out; omega) HQ.out HT.out ?_); intro v hv1 hv2 hv3; have HV := Lib.hid hv2; clear hv2; have HW := Lib.hid hv3; clear hv3)
        go_ret
        exact ⟨⟨32 + v, by simp, lenEnd (by first | rfl | exact Nat.div_one _) HV.out, by omega, fun h => by have := HW.out; omega⟩, rfl⟩
  · by_cases h2 : 65536 ≤ x
    · by_cases h3 : 256 ≤ x / 65536
      · have d1 : decide ((4294967296 : Int) ≤ (x : Int)) = false := decide_eq_false (by have := HX.out; omega)
        have d2 : decide ((65536 : Int) ≤ (x : Int)) = true := decide_eq_true (by have := HX.out; omega)
        have d3 : decide ((256 : Int) ≤ (x : Int) / 65536) = true := decide_eq_true (by have := HX.out; omega)
        have hq : x / 16777216 < 256 := by have := HX.out; omega
        have HQ := Lib.hid hq; clear hq
        have H1 := Lib.hid h1; clear h1
        have H2 := Lib.hid h2; clear h2
        have H3 := Lib.hid h3; clear h3
        go_wp2_with ((with_reducible refine at_dst 22 ?_); (refine wpList_tab rfl (.tmp 21) rfl _ (x / 16777216) rfl (by have := HQ.out; omega) HQ.out HT.out ?_); intro v hv1 hv2 hv3; have HV := Lib.hid hv2; clear hv2; have HW := Lib.hid hv3; clear hv3)
        go_ret
        exact ⟨⟨24 + v, by simp, lenEnd (by first | rfl | exact Nat.div_one _) HV.out, by omega, fun h => by have := HW.out; omega⟩, rfl⟩
      · have d1 : decide ((4294967296 : Int) ≤ (x : Int)) = false := decide_eq_false (by have := HX.out; omega)
        have d2 : decide ((65536 : Int) ≤ (x : Int)) = true := decide_eq_true (by have := HX.out; omega)
        have d3 : decide ((256 : Int) ≤ (x : Int) / 65536) = false := decide_eq_false (by have := HX.out; omega)
        have hq : x / 65536 < 256 := by have := HX.out; omega
        have HQ := Lib.hid hq; clear hq
        have H1 := Lib.hid h1; clear h1
        have H2 := Lib.hid h2; clear h2
        have H3 := Lib.hid h3; clear h3
        go_wp2_with ((with_reducible refine at_dst 22 ?_); (refine wpList_tab rfl (.tmp 21) rfl _ (x / 65536) rfl (by have := HQ.out; omega) HQ.out HT.out ?_); intro v hv1 hv2 hv3; have HV := Lib.hid hv2; clear hv2; have HW := Lib.hid hv3; clear hv3)
        go_ret
        exact ⟨⟨16 + v, by simp, lenEnd (by first | rfl | exact Nat.div_one _) HV.out, by omega, fun h => by have := HW.out; omega⟩, rfl⟩
    · by_cases h3 : 256 ≤ x
      · have d1 : decide ((4294967296 : Int) ≤ (x : Int)) = false := decide_eq_false (by have := HX.out; omega)
        have d2 : decide ((65536 : Int) ≤ (x : Int)) = false := decide_eq_false (by have := HX.out; omega)
        have d3 : decide ((256 : Int) ≤ (x : Int)) = true := decide_eq_true (by have := HX.out; omega)
        have hq : x / 256 < 256 := by have := HX.out; omega
        have HQ := Lib.hid hq; clear hq
        have H1 := Lib.hid h1; clear h1
        have H2 := Lib.hid h2; clear h2
        have H3 := Lib.hid h3; clear h3
        go_wp2_with ((with_reducible refine at_dst 22 ?_); (refine wpList_tab rfl (.tmp 21) rfl _ (x / 256) rfl (by have := HQ.out; omega) HQ.out HT.out ?_); intro v hv1 hv2 hv3; have HV := Lib.hid hv2; clear hv2; have HW := Lib.hid hv3; clear hv3)
        go_ret
        exact ⟨⟨8 + v, by simp, lenEnd (by first | rfl | exact Nat.div_one _) HV.out, by omega, fun h => by have := HW.out; omega⟩, rfl⟩
      · have d1 : decide ((4294967296 : Int) ≤ (x : Int)) = false := decide_eq_false (by have := HX.out; omega)
        have d2 : decide ((65536 : Int) ≤ (x : Int)) = false := decide_eq_false (by have := HX.out; omega)
        have d3 : decide ((256 : Int) ≤ (x : Int)) = false := decide_eq_false (by have := HX.out; omega)
        have hq : x < 256 := by have := HX.out; omega
        have HQ := Lib.hid hq; clear hq
        have H1 := Lib.hid h1; clear h1
        have H2 := Lib.hid h2; clear h2
        have H3 := Lib.hid h3; clear h3
        go_wp2_with ((with_reducible refine at_dst 22 ?_); (refine wpList_tab rfl (.tmp 21) rfl _ (x) rfl (by have := HQ.out; omega) HQ.out HT.out ?_); intro v hv1 hv2 hv3; have HV := Lib.hid hv2; clear hv2; have HW := Lib.hid hv3; clear hv3)
        go_ret
        exact ⟨⟨0 + v, by simp, lenEnd (by first | rfl | exact Nat.div_one _) HV.out, by omega, fun h => by have := HW.out; omega⟩, rfl⟩
end Go.Proofs.YtlmmdldjfpdcfaaGreatDoor

/-
  The proof systems' makers: histogram.
-/
namespace Go.Proofs.YtlmmdldjfpdcfaaGreatDoor
open Go.RowKit

theorem flpCount' (w : World) : Calls Tryz.prog 52 #[] w fun e w' => ∃ fb, e = .returned (.pointer (some ⟨fb, 0, none⟩)) ∧ Ext w w' No ∧ Flp 208 1 fb 1 w' ∧ w.heap.size ≤ fb := by
  refine (flpCount w).mono ?_
  rintro e w' ⟨rfl, f, rfl⟩
  exact ⟨_, rfl, (Ext.refl w No).alloc _, Flp.of1 (blk_new _ _) (u64c_int (z := 1) rfl (by omega)) (u64c_int (z := 1) rfl (by omega)) (u64c_int (z := 0) rfl (by omega)) (u64c_int (z := 1) rfl (by omega)) rfl, Nat.le_refl _⟩

theorem quo_ok {n c : Nat} (hn : n ≤ 1024) (hc0 : 0 < c) (hc : c ≤ 16) : 0 ≤ ((n : Int) + c - 1) / c ∧ ((n : Int) + c - 1) / c < 18446744073709551616 := by
  have h : (0 : Int) ≤ (n : Int) + c - 1 := by omega
  refine ⟨Int.ediv_nonneg h (by omega), ?_⟩
  have := Int.ediv_le_self (c : Int) h
  omega

theorem flpHist {n c : Nat} (hn0 : 0 < n) (hn : n ≤ 16) (hc0 : 0 < c) (hc : c ≤ 16) (w : World) : Calls Tryz.prog 62 #[.int .u64 (n : Nat), .int .u64 (c : Nat)] w fun e w' => ∃ fb, e = .returned (.pointer (some ⟨fb, 0, none⟩)) ∧ Ext w w' No ∧ Flp 242 2 fb n w' ∧ w.heap.size ≤ fb := by
  have hq := quo_ok (n := n) (c := c) (by omega) hc0 hc
  have HQ := Lib.hid hq; clear hq
  go_enter Tryz.func62, Tryz.ntmps62
  go_wp2
  go_ret
  have hq := HQ.out
  exact ⟨_, rfl, (Ext.refl w No).alloc _, Flp.of2 (blk_new _ _) (u64c_int (z := (c : Int)) rfl (by omega)) (u64c_int (z := ((n : Int) + c - 1) / c) rfl hq) (u64c_int (z := (n : Int)) rfl (by omega)) (u64c_int (z := ((n : Int) + c - 1) / c) rfl hq) (u64c_int (z := 2) rfl (by omega)) rfl, Nat.le_refl _⟩

theorem flpSv {n b c : Nat} (hn0 : 0 < n) (hn : n ≤ 16) (hb0 : 0 < b) (hb : b ≤ 64) (hc0 : 0 < c) (hc : c ≤ 16) (w : World) : Calls Tryz.prog 59 #[.int .u64 (n : Nat), .int .u64 (b : Nat), .int .u64 (c : Nat)] w fun e w' =>
    ∃ fb, e = .returned (.tuple #[.pointer (some ⟨fb, 0, none⟩), .nilIface]) ∧ Ext w w' No ∧ Flp 238 2 fb n w' ∧ w.heap.size ≤ fb := by
  have d1 : ((n : Int) == 0) = false := by simp; omega
  have d2 : ((b : Int) == 0) = false := by simp; omega
  have d3 : ((c : Int) == 0) = false := by simp; omega
  have d4 : decide ((64 : Int) < (b : Int)) = false := decide_eq_false (by omega)
  have HN := Lib.hid hn; clear hn
  have HB := Lib.hid hb; clear hb
  go_enter Tryz.func59, Tryz.ntmps59
  go_wp2
  go_ret2
  have hn := HN.out
  exact ⟨_, rfl, (Ext.refl w No).alloc _, Flp.of2 (blk_new _ _) (u64c_int (z := (c : Int)) rfl (by omega)) (u64c_wrap rfl) (u64c_wrap rfl) (u64c_wrap rfl) (u64c_int (z := 1) rfl (by omega)) rfl, Nat.le_refl _⟩
end Go.Proofs.YtlmmdldjfpdcfaaGreatDoor

/-
  fp128's order as bytes (Fp.Order, PutBE64s).
-/
namespace Go.Proofs.YtlmmdldjfpdcfaaGreatDoor
open Go.RowKit

def beP : List Nat := [255, 255, 255, 255, 255, 255, 255, 228, 0, 0, 0, 0, 0, 0, 0, 1]
/-- What the second number's bytes are; k: which of the two. -/
def beX : Nat → Int
  | 0 => 18446744073709551588
  | _ => 1
def beS (i : Nat) : Array Value := ((u8s (beP.take i)) ++ (Z16.toList.drop i)).toArray

theorem putBE {db sb c : Nat} {t : TypeId} {w : World} (hd : w.heap[db]? = some (.cells (beS 0) 271 (0, 0))) (hs : w.heap[sb]? = some (.cells #[.int .u64 18446744073709551588, .int .u64 1] t (0, 0))) (hne : sb ≠ db) :
    Calls Tryz.prog 99 #[.slice (some ⟨db, 0, none⟩) 16 16, .slice (some ⟨sb, 0, none⟩) 2 c] w fun e w' => e = .returned (.tuple #[]) ∧ Ext w w' (fun k => k = db) ∧ w'.heap[db]? = some (.cells (beS 16) 271 (0, 0)) := by
  have H0 : Hid (Ext w w (fun k => k = db) ∧ w.heap[db]? = some (.cells (beS (8 * 0)) 271 (0, 0))) := ⟨Ext.refl _ _, hd⟩
  clear hd
  have HS := Lib.hid hs; clear hs
  go_enter Tryz.func99, Tryz.ntmps99
  go_wp2
  go_loopw [9] (fun i wr => ∃ k : Nat, k ≤ 2 ∧ i = .int .i64 k ∧ Hid (Ext w wr (fun k => k = db) ∧ wr.heap[db]? = some (.cells (beS (8 * k)) 271 (0, 0)))) (fun i _ => 2 - (intOf i).toNat)
  case atStart => exact ⟨0, by omega, rfl, H0⟩
  case round =>
    obtain ⟨k, hk, rfl, hR⟩ := hrel
    by_cases h2 : k = 2
    · subst h2
      go_wp2
      go_end0
      exact ⟨rfl, hR.out.1, hR.out.2⟩
    · obtain ⟨hx0, hb0⟩ := hR.out
      have hsb := hx0.blk HS.out hne
      have HB0 := Lib.hid hb0; clear hb0
      obtain rfl | rfl : k = 0 ∨ k = 1 := by omega
      · have hc : wr.cell? ⟨sb, 0, none⟩ = some (.int .u64 18446744073709551588) := blk_cell hsb 0
        clear hsb
        go_wp2
        go_loopw [6] (fun i w2 => ∃ j : Nat, j ≤ 8 ∧ i = .int .i64 j ∧ Hid (Ext wr w2 (fun k => k = db) ∧ w2.heap[db]? = some (.cells (beS (0 + j)) 271 (0, 0)))) (fun i _ => 8 - (intOf i).toNat)
        case atStart => exact ⟨0, by omega, rfl, ⟨Ext.refl _ _, HB0.out⟩⟩
        case round =>
          obtain ⟨j, hj, rfl, hJ⟩ := hrel
          obtain rfl | rfl | rfl | rfl | rfl | rfl | rfl | rfl | rfl : j = 8 ∨ j = 0 ∨ j = 1 ∨ j = 2 ∨ j = 3 ∨ j = 4 ∨ j = 5 ∨ j = 6 ∨ j = 7 := by omega
          · go_wp2
            exact ⟨⟨1, by omega, rfl, ⟨hx0.trans hJ.out.1 (fun _ _ h => h), hJ.out.2⟩⟩, by simp [intOf]⟩
          · have hu : ∃ u, World.cell? _ ⟨db, 0, none⟩ = some u := ⟨_, (blk_cell hJ.out.2 0).trans (by kernel_rfl : _ = some (Value.int .u8 0))⟩
            obtain ⟨u, hu⟩ := hu
            have hf := blk_frz hJ.out.2 0
            go_wp2
            exact ⟨⟨1, by omega, rfl, ⟨hJ.out.1.set (.inr rfl) _, (blk_set hJ.out.2 0 (.int .u8 255)).trans (by kernel_rfl)⟩⟩, by simp [intOf]⟩
          · have hu : ∃ u, World.cell? _ ⟨db, 1, none⟩ = some u := ⟨_, (blk_cell hJ.out.2 1).trans (by kernel_rfl : _ = some (Value.int .u8 0))⟩
            obtain ⟨u, hu⟩ := hu
            have hf := blk_frz hJ.out.2 1
            go_wp2
            exact ⟨⟨2, by omega, rfl, ⟨hJ.out.1.set (.inr rfl) _, (blk_set hJ.out.2 1 (.int .u8 255)).trans (by kernel_rfl)⟩⟩, by simp [intOf]⟩
          · have hu : ∃ u, World.cell? _ ⟨db, 2, none⟩ = some u := ⟨_, (blk_cell hJ.out.2 2).trans (by kernel_rfl : _ = some (Value.int .u8 0))⟩
            obtain ⟨u, hu⟩ := hu
            have hf := blk_frz hJ.out.2 2
            go_wp2
            exact ⟨⟨3, by omega, rfl, ⟨hJ.out.1.set (.inr rfl) _, (blk_set hJ.out.2 2 (.int .u8 255)).trans (by kernel_rfl)⟩⟩, by simp [intOf]⟩
          · have hu : ∃ u, World.cell? _ ⟨db, 3, none⟩ = some u := ⟨_, (blk_cell hJ.out.2 3).trans (by kernel_rfl : _ = some (Value.int .u8 0))⟩
            obtain ⟨u, hu⟩ := hu
            have hf := blk_frz hJ.out.2 3
            go_wp2
            exact ⟨⟨4, by omega, rfl, ⟨hJ.out.1.set (.inr rfl) _, (blk_set hJ.out.2 3 (.int .u8 255)).trans (by kernel_rfl)⟩⟩, by simp [intOf]⟩
          · have hu : ∃ u, World.cell? _ ⟨db, 4, none⟩ = some u := ⟨_, (blk_cell hJ.out.2 4).trans (by kernel_rfl : _ = some (Value.int .u8 0))⟩
            obtain ⟨u, hu⟩ := hu
            have hf := blk_frz hJ.out.2 4
            go_wp2
            exact ⟨⟨5, by omega, rfl, ⟨hJ.out.1.set (.inr rfl) _, (blk_set hJ.out.2 4 (.int .u8 255)).trans (by kernel_rfl)⟩⟩, by simp [intOf]⟩
          · have hu : ∃ u, World.cell? _ ⟨db, 5, none⟩ = some u := ⟨_, (blk_cell hJ.out.2 5).trans (by kernel_rfl : _ = some (Value.int .u8 0))⟩
            obtain ⟨u, hu⟩ := hu
            have hf := blk_frz hJ.out.2 5
            go_wp2
            exact ⟨⟨6, by omega, rfl, ⟨hJ.out.1.set (.inr rfl) _, (blk_set hJ.out.2 5 (.int .u8 255)).trans (by kernel_rfl)⟩⟩, by simp [intOf]⟩
          · have hu : ∃ u, World.cell? _ ⟨db, 6, none⟩ = some u := ⟨_, (blk_cell hJ.out.2 6).trans (by kernel_rfl : _ = some (Value.int .u8 0))⟩
            obtain ⟨u, hu⟩ := hu
            have hf := blk_frz hJ.out.2 6
            go_wp2
            exact ⟨⟨7, by omega, rfl, ⟨hJ.out.1.set (.inr rfl) _, (blk_set hJ.out.2 6 (.int .u8 255)).trans (by kernel_rfl)⟩⟩, by simp [intOf]⟩
          · have hu : ∃ u, World.cell? _ ⟨db, 7, none⟩ = some u := ⟨_, (blk_cell hJ.out.2 7).trans (by kernel_rfl : _ = some (Value.int .u8 0))⟩
            obtain ⟨u, hu⟩ := hu
            have hf := blk_frz hJ.out.2 7
            go_wp2
            exact ⟨⟨8, by omega, rfl, ⟨hJ.out.1.set (.inr rfl) _, (blk_set hJ.out.2 7 (.int .u8 228)).trans (by kernel_rfl)⟩⟩, by simp [intOf]⟩
      · have hc : wr.cell? ⟨sb, 1, none⟩ = some (.int .u64 1) := blk_cell hsb 1
        clear hsb
        go_wp2
        go_loopw [6] (fun i w2 => ∃ j : Nat, j ≤ 8 ∧ i = .int .i64 j ∧ Hid (Ext wr w2 (fun k => k = db) ∧ w2.heap[db]? = some (.cells (beS (8 + j)) 271 (0, 0)))) (fun i _ => 8 - (intOf i).toNat)
        case atStart => exact ⟨0, by omega, rfl, ⟨Ext.refl _ _, HB0.out⟩⟩
        case round =>
          obtain ⟨j, hj, rfl, hJ⟩ := hrel
          obtain rfl | rfl | rfl | rfl | rfl | rfl | rfl | rfl | rfl : j = 8 ∨ j = 0 ∨ j = 1 ∨ j = 2 ∨ j = 3 ∨ j = 4 ∨ j = 5 ∨ j = 6 ∨ j = 7 := by omega
          · go_wp2
            exact ⟨⟨2, by omega, rfl, ⟨hx0.trans hJ.out.1 (fun _ _ h => h), hJ.out.2⟩⟩, by simp [intOf]⟩
          · have hu : ∃ u, World.cell? _ ⟨db, 8, none⟩ = some u := ⟨_, (blk_cell hJ.out.2 8).trans (by kernel_rfl : _ = some (Value.int .u8 0))⟩
            obtain ⟨u, hu⟩ := hu
            have hf := blk_frz hJ.out.2 8
            go_wp2
            exact ⟨⟨1, by omega, rfl, ⟨hJ.out.1.set (.inr rfl) _, (blk_set hJ.out.2 8 (.int .u8 0)).trans (by kernel_rfl)⟩⟩, by simp [intOf]⟩
          · have hu : ∃ u, World.cell? _ ⟨db, 9, none⟩ = some u := ⟨_, (blk_cell hJ.out.2 9).trans (by kernel_rfl : _ = some (Value.int .u8 0))⟩
            obtain ⟨u, hu⟩ := hu
            have hf := blk_frz hJ.out.2 9
            go_wp2
            exact ⟨⟨2, by omega, rfl, ⟨hJ.out.1.set (.inr rfl) _, (blk_set hJ.out.2 9 (.int .u8 0)).trans (by kernel_rfl)⟩⟩, by simp [intOf]⟩
          · have hu : ∃ u, World.cell? _ ⟨db, 10, none⟩ = some u := ⟨_, (blk_cell hJ.out.2 10).trans (by kernel_rfl : _ = some (Value.int .u8 0))⟩
            obtain ⟨u, hu⟩ := hu
            have hf := blk_frz hJ.out.2 10
            go_wp2
            exact ⟨⟨3, by omega, rfl, ⟨hJ.out.1.set (.inr rfl) _, (blk_set hJ.out.2 10 (.int .u8 0)).trans (by kernel_rfl)⟩⟩, by simp [intOf]⟩
          · have hu : ∃ u, World.cell? _ ⟨db, 11, none⟩ = some u := ⟨_, (blk_cell hJ.out.2 11).trans (by kernel_rfl : _ = some (Value.int .u8 0))⟩
            obtain ⟨u, hu⟩ := hu
            have hf := blk_frz hJ.out.2 11
            go_wp2
            exact ⟨⟨4, by omega, rfl, ⟨hJ.out.1.set (.inr rfl) _, (blk_set hJ.out.2 11 (.int .u8 0)).trans (by kernel_rfl)⟩⟩, by simp [intOf]⟩
          · have hu : ∃ u, World.cell? _ ⟨db, 12, none⟩ = some u := ⟨_, (blk_cell hJ.out.2 12).trans (by kernel_rfl : _ = some (Value.int .u8 0))⟩
            obtain ⟨u, hu⟩ := hu
            have hf := blk_frz hJ.out.2 12
            go_wp2
            exact ⟨⟨5, by omega, rfl, ⟨hJ.out.1.set (.inr rfl) _, (blk_set hJ.out.2 12 (.int .u8 0)).trans (by kernel_rfl)⟩⟩, by simp [intOf]⟩
          · have hu : ∃ u, World.cell? _ ⟨db, 13, none⟩ = some u := ⟨_, (blk_cell hJ.out.2 13).trans (by kernel_rfl : _ = some (Value.int .u8 0))⟩
            obtain ⟨u, hu⟩ := hu
            have hf := blk_frz hJ.out.2 13
            go_wp2
            exact ⟨⟨6, by omega, rfl, ⟨hJ.out.1.set (.inr rfl) _, (blk_set hJ.out.2 13 (.int .u8 0)).trans (by kernel_rfl)⟩⟩, by simp [intOf]⟩
          · have hu : ∃ u, World.cell? _ ⟨db, 14, none⟩ = some u := ⟨_, (blk_cell hJ.out.2 14).trans (by kernel_rfl : _ = some (Value.int .u8 0))⟩
            obtain ⟨u, hu⟩ := hu
            have hf := blk_frz hJ.out.2 14
            go_wp2
            exact ⟨⟨7, by omega, rfl, ⟨hJ.out.1.set (.inr rfl) _, (blk_set hJ.out.2 14 (.int .u8 0)).trans (by kernel_rfl)⟩⟩, by simp [intOf]⟩
          · have hu : ∃ u, World.cell? _ ⟨db, 15, none⟩ = some u := ⟨_, (blk_cell hJ.out.2 15).trans (by kernel_rfl : _ = some (Value.int .u8 0))⟩
            obtain ⟨u, hu⟩ := hu
            have hf := blk_frz hJ.out.2 15
            go_wp2
            exact ⟨⟨8, by omega, rfl, ⟨hJ.out.1.set (.inr rfl) _, (blk_set hJ.out.2 15 (.int .u8 1)).trans (by kernel_rfl)⟩⟩, by simp [intOf]⟩
end Go.Proofs.YtlmmdldjfpdcfaaGreatDoor
