/-
  fp64's vectors: written to the builder (Vec.Marshal), added in place (Vec.AddAssign).
-/
import Derived.Test.YtlmmdldjfpdcfaaGreatDoorM03
import Derived.Test.YtlmmdldjfpdcfaaGreatDoorM02
namespace Go.Proofs.YtlmmdldjfpdcfaaGreatDoor
open Go.RowKit

theorem putL_get_ge (cs : Array Value) (o : Nat) (l : List Value) (i : Nat) (h : o + l.length ≤ i) : (putL cs o l)[i]? = cs[i]? := by
  induction l generalizing cs o with
  | nil => rfl
  | cons x l ih =>
    simp only [List.length_cons] at h
    rw [putL, ih _ _ (by omega), Array.getElem?_setIfInBounds_ne (by omega)]
theorem vecC64_map (vs : List Nat) : vecC enc64 vs = vs.map fun v => .int .u64 (v : Nat) := by
  induction vs with
  | nil => rfl
  | cons v vs ih => rw [show vecC enc64 (v :: vs) = enc64 v ++ vecC enc64 vs from rfl, ih]; rfl
theorem vecC64_get (vs : List Nat) (k : Nat) (h : k < vs.length) : (vecC enc64 vs).toArray[k]? = some (.int .u64 (vs.getD k 0 : Nat)) := by
  rw [vecC64_map]
  simp [List.getD, h]
theorem take_snocD (l : List Nat) (k : Nat) (h : k < l.length) : l.take (k + 1) = l.take k ++ [l.getD k 0] := by
  rw [List.take_succ_eq_append_getElem h]; simp [List.getD, h]

/-- The bytes of a vector. -/
def flat (f : Nat → List Nat) (vs : List Nat) : List Nat := vs.flatMap f
theorem flat_snoc (f : Nat → List Nat) (vs : List Nat) (v : Nat) : flat f (vs ++ [v]) = flat f vs ++ f v := by simp [flat]
theorem flat_len (f : Nat → List Nat) (sz : Nat) (hf : ∀ v, (f v).length = sz) (vs : List Nat) : (flat f vs).length = vs.length * sz := by
  induction vs with
  | nil => simp [flat]
  | cons v vs ih => rw [show flat f (v :: vs) = f v ++ flat f vs from rfl, List.length_append, ih, hf, List.length_cons, Nat.add_mul, Nat.one_mul, Nat.add_comm]
def out64 (v : Nat) : List Nat := bytesL 8 (val64 v)
theorem out64_len (v : Nat) : (out64 v).length = 8 := bytesL_len _ _

theorem vecMar64 {base vb n vc bb g cap : Nat} {done vs : List Nat} {w : World} {vt : TypeId} (hlen : vs.length = n) (hlt : ∀ i, i < n → vs.getD i 0 < P64) (hv : w.heap[vb]? = some (.cells (vecC enc64 vs).toArray vt (0, 0)))
    (hB : Bld base w bb g cap done) (hne : bb ≠ g) (hvb : vb ≠ bb) (hvg : vb ≠ g) (hn : n ≤ 1000) (hroom : done.length + n * 8 ≤ cap) (hcap : cap ≤ 100000) :
    Calls Tryz.prog 146 #[.slice (some ⟨vb, 0, none⟩) n vc, .pointer (some ⟨bb, 0, none⟩)] w fun e w' =>
      e = .returned .nilIface ∧ Ext w w' (fun k => k = bb ∨ k = g) ∧ Bld base w' bb g cap (done ++ flat out64 vs) := by
  have H0 : Hid (Ext w w (fun k => k = bb ∨ k = g) ∧ Bld base w bb g cap (done ++ flat out64 (vs.take 0))) := ⟨Ext.refl _ _, by simpa [flat] using hB⟩
  clear hB
  have Hlen := Lib.hid hlen; clear hlen
  have Hlt := Lib.hid hlt; clear hlt
  have Hv := Lib.hid hv; clear hv
  go_enter Tryz.func146, Tryz.ntmps146
  go_wp2
  go_loopw [8] (fun i wr => ∃ k : Nat, k ≤ n ∧ i = .int .i64 k ∧ Hid (Ext w wr (fun k => k = bb ∨ k = g) ∧ Bld base wr bb g cap (done ++ flat out64 (vs.take k)))) (fun i _ => n - (intOf i).toNat)
  case atStart => exact ⟨0, by omega, rfl, H0⟩
  case round =>
    obtain ⟨k, hk, rfl, hR⟩ := hrel
    by_cases hkn : k = n
    · subst hkn
      go_wp2
      go_ret
      obtain ⟨hx, hB⟩ := hR.out
      rw [List.take_of_length_le (by rw [Hlen.out]; omega)] at hB
      exact ⟨rfl, hx, hB⟩
    · have hlk : k < n := by omega
      have hc : w.cell? ⟨vb, k, none⟩ = some (.int .u64 (vs.getD k 0 : Nat)) := by rw [blk_cell Hv.out, vecC64_get _ _ (by rw [Hlen.out]; exact hlk)]
      have hc' := hR.out.1.cell hc (by simp; exact ⟨hvb, hvg⟩)
      have hl : (done ++ flat out64 (vs.take k)).length + 8 ≤ cap := by
        rw [List.length_append, flat_len _ 8 out64_len, List.length_take, Hlen.out]
        have := Nat.min_eq_left (by omega : k ≤ n)
        omega
      have hvk := Hlt.out k hlk
      have HC := Lib.hid hc'; clear hc' hc
      have HL := Lib.hid hl; clear hl
      have HVK := Lib.hid hvk; clear hvk
      go_wp2_with (go_at_call 149; refine (marshal64 HVK.out HC.out hR.out.2 hne HL.out hcap).mono ?_; rintro e w1 ⟨rfl, hx1, hB1⟩; have HB1 := Lib.hid hB1; clear hB1)
      exact ⟨⟨k + 1, by omega, by go_num, hR.out.1.trans hx1 (fun _ _ h => h), by
        have h := HB1.out
        rw [take_snocD _ _ (by rw [Hlen.out]; exact hlk), flat_snoc, ← List.append_assoc]
        exact h⟩, by simp [intOf]; omega⟩

theorem sameLen64 {a b : Option Addr} {n c d : Nat} {w : World} : Calls Tryz.prog 285 #[.slice a n c, .slice b n d] w fun e w' => e = .returned (.tuple #[]) ∧ w = w' := by
  go_enter Tryz.func285, Tryz.ntmps285
  go_wp2
  go_end0
  exact ⟨rfl, rfl⟩

def addN (p : Nat) (vs xs : List Nat) : List Nat := List.zipWith (fun a b => (a + b) % p) vs xs
theorem addN_len (p : Nat) (vs xs : List Nat) (h : vs.length = xs.length) : (addN p vs xs).length = vs.length := by simp [addN, h]
theorem addN_get (p : Nat) (vs xs : List Nat) (k : Nat) (h : vs.length = xs.length) (hk : k < vs.length) : (addN p vs xs).getD k 0 = (vs.getD k 0 + xs.getD k 0) % p := by
  have hk' : k < xs.length := by omega
  simp [addN, List.getD, List.getElem?_zipWith, hk, hk']

theorem vecAdd64 {vb xb n vc xc : Nat} {vs xs : List Nat} {w : World} {vt xt : TypeId} (hlv : vs.length = n) (hlx : xs.length = n) (hv : ∀ i, i < n → vs.getD i 0 < P64) (hx : ∀ i, i < n → xs.getD i 0 < P64)
    (hbv : w.heap[vb]? = some (.cells (vecC enc64 vs).toArray vt (0, 0))) (hbx : w.heap[xb]? = some (.cells (vecC enc64 xs).toArray xt (0, 0))) (hne : xb ≠ vb) (hn : n ≤ 1000) :
    Calls Tryz.prog 284 #[.slice (some ⟨vb, 0, none⟩) n vc, .slice (some ⟨xb, 0, none⟩) n xc] w fun e w' =>
      e = .returned (.tuple #[]) ∧ Ext w w' (fun k => k = vb) ∧ w'.heap[vb]? = some (.cells (vecC enc64 (addN P64 vs xs)).toArray vt (0, 0)) := by
  have H0 : Hid (Ext w w (fun k => k = vb) ∧ w.heap[vb]? = some (.cells (putL (vecC enc64 vs).toArray 0 (vecC enc64 ((addN P64 vs xs).take 0))) vt (0, 0))) := ⟨Ext.refl _ _, hbv⟩
  have Hlv := Lib.hid hlv; clear hlv
  have Hlx := Lib.hid hlx; clear hlx
  have Hv := Lib.hid hv; clear hv
  have Hx := Lib.hid hx; clear hx
  have Hbv := Lib.hid hbv; clear hbv
  have Hbx := Lib.hid hbx; clear hbx
  go_enter Tryz.func284, Tryz.ntmps284
  go_wp2_with (go_at_call 285; refine sameLen64.mono ?_; rintro e w' ⟨rfl, rfl⟩)
  go_loopw [10] (fun i wr => ∃ k : Nat, k ≤ n ∧ i = .int .i64 k ∧ Hid (Ext w wr (fun k => k = vb) ∧ wr.heap[vb]? = some (.cells (putL (vecC enc64 vs).toArray 0 (vecC enc64 ((addN P64 vs xs).take k))) vt (0, 0)))) (fun i _ => n - (intOf i).toNat)
  case atStart => exact ⟨0, by omega, rfl, H0⟩
  case round =>
    obtain ⟨k, hk, rfl, hR⟩ := hrel
    have hla : (addN P64 vs xs).length = n := by rw [addN_len _ _ _ (by rw [Hlv.out, Hlx.out]), Hlv.out]
    by_cases hkn : k = n
    · subst hkn
      have Hla := Lib.hid hla; clear hla
      go_wp2
      go_end0
      obtain ⟨hx, hB⟩ := hR.out
      rw [List.take_of_length_le (by rw [Hla.out]; omega), putL_all _ _ (by simp [vecC_len64, Hla.out, Hlv.out])] at hB
      exact ⟨rfl, hx, hB⟩
    · have hlk : k < n := by omega
      have c1 : wr.cell? ⟨vb, k, none⟩ = some (.int .u64 (vs.getD k 0 : Nat)) := by
        rw [blk_cell hR.out.2, putL_get_ge _ _ _ _ (by rw [vecC_len64, List.length_take]; omega), vecC64_get _ _ (by rw [Hlv.out]; exact hlk)]
      have f1 : wr.frozen? ⟨vb, k, none⟩ = false := blk_frz hR.out.2 k
      have c2 : w.cell? ⟨xb, k, none⟩ = some (.int .u64 (xs.getD k 0 : Nat)) := by rw [blk_cell Hbx.out, vecC64_get _ _ (by rw [Hlx.out]; exact hlk)]
      have c3 := hR.out.1.cell c2 hne
      clear c2
      have i1 : (0 : Int) ≤ (k : Int) := by omega
      have i2 : (k : Int) < (n : Int) := by omega
      have Hla := Lib.hid hla; clear hla
      have C1 := Lib.hid c1; clear c1
      have C3 := Lib.hid c3; clear c3
      have F1 := Lib.hid f1; clear f1
      go_wp2_with fail
      go_region_with (go_at_call 94; refine (addAssign64 (w := wr.drew) (Hv.out k hlk) (Hx.out k hlk) C1.out F1.out C3.out).mono ?_; rintro e w1 ⟨rfl, hx1⟩)
      go_wp2
      have hB := hx1.blkNo (blk_set (w := wr.drew) hR.out.2 k (.int .u64 ((vs.getD k 0 + xs.getD k 0) % P64 : Nat)))
      refine ⟨⟨k + 1, by omega, by go_num, ((hR.out.1.drew).set (.inr rfl) _).transNo hx1, ?_⟩, by simp [intOf]; omega⟩
      rw [take_snocD _ _ (by rw [Hla.out]; exact hlk), vecC_snoc, enc64, putL_snoc, vecC_len64, List.length_take, Hla.out, Nat.min_eq_left (by omega), Nat.zero_add, addN_get _ _ _ _ (by rw [Hlv.out, Hlx.out]) (by rw [Hlv.out]; exact hlk)]
      exact hB
end Go.Proofs.YtlmmdldjfpdcfaaGreatDoor

/-
  fp128's numbers: into the code's form and back, added in place, told from bytes.
-/
namespace Go.Proofs.YtlmmdldjfpdcfaaGreatDoor
open Go.RowKit

def val128 (v : Nat) : Nat := v * I128 % P128
def tom128 (v : Nat) : Nat := v * R128 % P128
theorem tom128_lt (v : Nat) : tom128 v < P128 := Nat.mod_lt _ (by decide)
theorem val128_lt (v : Nat) : val128 v < P128 := Nat.mod_lt _ (by decide)
theorem val_tom128 {v : Nat} (h : v < P128) : val128 (tom128 v) = v := val_tom P128 R128 I128 v (by decide) h
theorem val_add128 (a b : Nat) : val128 ((a + b) % P128) = (val128 a + val128 b) % P128 := val_add P128 I128 a b
theorem R_of_P128 {v : Nat} (h : v < P128) : v < R128 := by simp only [P128, R128] at *; omega
theorem W64.hwP {v : Nat} (h : v < P128) : W64 (YtlmmdldjfpdcfaaGreatDoor.hw v) := W64.hw (R_of_P128 h)
abbrev N128 : Nat := 403909908237944342183153
theorem lwN : lw N128 = 18446744073709550833 := by decide
theorem hwN : hw N128 = 21895 := by decide
theorem lw1 : lw 1 = 1 := by decide
theorem hw1 : hw 1 = 0 := by decide
theorem mul128_rsq {v : Nat} (h : v < P128) : mul128l (lw v) (hw v) 18446744073709550833 21895 = lw (tom128 v) ∧ mul128h (lw v) (hw v) 18446744073709550833 21895 = hw (tom128 v) := by
  have e := mul128_law (a := v) (b := N128) (R_of_P128 h) (by decide) (by simp only [R128, P128, N128] at *; omega)
  rw [tom_mul P128 R128 N128 I128 v (by decide), lwN, hwN] at e
  exact e
theorem mul128_one {v : Nat} (h : v < P128) : mul128l (lw v) (hw v) 1 0 = lw (val128 v) ∧ mul128h (lw v) (hw v) 1 0 = hw (val128 v) := by
  have e := mul128_law (a := v) (b := 1) (R_of_P128 h) (by decide) (by simp only [R128, P128] at *; omega)
  rw [Nat.mul_one, lw1, hw1] at e
  exact e
theorem W64.n0 : W64 18446744073709550833 := by unfold W64; omega
theorem W64.n1 : W64 21895 := by unfold W64; omega

theorem rSquare128 (w : World) : Calls Tryz.prog 118 #[] w fun e w' => e = .returned (.pointer (some ⟨w.heap.size, 0, none⟩)) ∧ w.alloc (.cells #[.int .u64 18446744073709550833, .int .u64 21895] 52) = w' := by
  go_enter Tryz.func118, Tryz.ntmps118
  go_wp2
  go_ret
  exact ⟨rfl, rfl⟩

theorem toMont128 {bo oo v : Nat} {w : World} (hv : v < P128) (hco : w.cell? ⟨bo, oo, none⟩ = some (.int .u64 (lw v))) (hfo : w.frozen? ⟨bo, oo, none⟩ = false)
    (hco' : w.cell? ⟨bo, oo + 1, none⟩ = some (.int .u64 (hw v))) (hfo' : w.frozen? ⟨bo, oo + 1, none⟩ = false) :
    Calls Tryz.prog 100 #[.pointer (some ⟨bo, oo, none⟩)] w fun e w' => e = .returned (.tuple #[]) ∧ Ext ((w.setCell ⟨bo, oo, none⟩ (.int .u64 (lw (tom128 v)))).setCell ⟨bo, oo + 1, none⟩ (.int .u64 (hw (tom128 v)))) w' No := by
  have lo : bo < w.heap.size := World.block_lt_of_cell? _ _ hco
  have E := Lib.hid (mul128_rsq hv)
  go_enter Tryz.func100, Tryz.ntmps100
  go_wp2_with (first
    | (go_at_call 118; refine (rSquare128 _).mono ?_; rintro e w' ⟨rfl, rfl⟩)
    | (go_at_call 117; refine (mul_fp128 (W64.lw v) (W64.hwP hv) W64.n0 W64.n1 (cell_alloc hco _) (frz_alloc lo hfo _) (cell_alloc hco' _) (frz_alloc lo hfo' _) (cell_alloc hco _) (cell_alloc hco' _) (blk_cell (blk_new _ _) 0) (blk_cell (blk_new _ _) 1)).mono ?_; rintro e w' ⟨rfl, hx⟩))
  go_end0
  exact ⟨rfl, by rw [← E.out.1, ← E.out.2]; exact (ext_alloc_set2 lo _ _ _ _).transNo hx⟩

theorem fromMont128 {bo oo v : Nat} {w : World} (hv : v < P128) (hco : w.cell? ⟨bo, oo, none⟩ = some (.int .u64 (lw v))) (hco' : w.cell? ⟨bo, oo + 1, none⟩ = some (.int .u64 (hw v))) :
    Calls Tryz.prog 165 #[.pointer (some ⟨bo, oo, none⟩)] w fun e w' => e = .returned (.agg #[.int .u64 (lw (val128 v)), .int .u64 (hw (val128 v))]) ∧ Ext w w' No := by
  have lo : bo < w.heap.size := World.block_lt_of_cell? _ _ hco
  have E := Lib.hid (mul128_one hv)
  have hc2 : ∀ o1 o2, ((w.alloc o1).alloc o2).cell? ⟨bo, oo, none⟩ = some (.int .u64 (lw v)) := fun o1 o2 => cell_alloc (cell_alloc hco o1) o2
  have hc3 : ∀ o1 o2, ((w.alloc o1).alloc o2).cell? ⟨bo, oo + 1, none⟩ = some (.int .u64 (hw v)) := fun o1 o2 => cell_alloc (cell_alloc hco' o1) o2
  have hb : ∀ o2, ((w.alloc (.cells #[.int .u64 0, .int .u64 0] 52)).alloc o2).heap[w.heap.size]? = some (.cells #[.int .u64 0, .int .u64 0] 52 (0, 0)) := fun o2 => blk_alloc (blk_new _ _) o2
  have hn2 : ((w.alloc (.cells #[.int .u64 0, .int .u64 0] 52)).alloc (.cells #[.int .u64 1, .int .u64 0] 52)).cell? ⟨w.heap.size + 1, 0, none⟩ = some (.int .u64 1) := by simp
  have hn3 : ((w.alloc (.cells #[.int .u64 0, .int .u64 0] 52)).alloc (.cells #[.int .u64 1, .int .u64 0] 52)).cell? ⟨w.heap.size + 1, 0 + 1, none⟩ = some (.int .u64 0) := by simp
  have C2 := Lib.hid hc2; clear hc2
  have C3 := Lib.hid hc3; clear hc3
  have B := Lib.hid hb; clear hb
  have N2 := Lib.hid hn2; clear hn2
  have N3 := Lib.hid hn3; clear hn3
  go_enter Tryz.func165, Tryz.ntmps165
  go_wp2_with (go_at_call 117; refine (mul_fp128 (oo := 0) (ob := 0) (W64.lw v) (W64.hwP hv) W64.one W64.zero (blk_cell (B.out _) 0) (blk_frz (B.out _) 0) (blk_cell (B.out _) 1) (blk_frz (B.out _) 1) (C2.out _ _) (C3.out _ _) N2.out N3.out).mono ?_; rintro e w' ⟨rfl, hx⟩)
  have hb := hx.blkNo (blk_set (blk_set (B.out _) 0 _) 1 _)
  have h0 : w'.cell? ⟨w.heap.size, 0, none⟩ = some (.int .u64 (lw (val128 v))) := by rw [← E.out.1]; exact blk_cell hb 0
  have h1 : w'.cell? ⟨w.heap.size, 1, none⟩ = some (.int .u64 (hw (val128 v))) := by rw [← E.out.2]; exact blk_cell hb 1
  refine bodyPost_ret (v := .agg #[.int .u64 (lw (val128 v)), .int .u64 (hw (val128 v))]) (by simp [results, Tryz.results165, go_sem, h0, h1]) rfl ⟨rfl, ?_⟩
  exact (((((Ext.refl w No).alloc _).alloc _).set (.inl (Nat.le_refl _)) _).set (.inl (Nat.le_refl _)) _).transNo hx

theorem addAssign128 {bo oo ba oa x y : Nat} {w : World} (hx : x < P128) (hy : y < P128) (hco : w.cell? ⟨bo, oo, none⟩ = some (.int .u64 (lw x))) (hfo : w.frozen? ⟨bo, oo, none⟩ = false)
    (hco' : w.cell? ⟨bo, oo + 1, none⟩ = some (.int .u64 (hw x))) (hfo' : w.frozen? ⟨bo, oo + 1, none⟩ = false)
    (hca : w.cell? ⟨ba, oa, none⟩ = some (.int .u64 (lw y))) (hca' : w.cell? ⟨ba, oa + 1, none⟩ = some (.int .u64 (hw y))) :
    Calls Tryz.prog 98 #[.pointer (some ⟨bo, oo, none⟩), .pointer (some ⟨ba, oa, none⟩)] w fun e w' =>
      e = .returned (.tuple #[]) ∧ Ext ((w.setCell ⟨bo, oo, none⟩ (.int .u64 (lw ((x + y) % P128)))).setCell ⟨bo, oo + 1, none⟩ (.int .u64 (hw ((x + y) % P128)))) w' No := by
  have E := Lib.hid (add128_law hx hy)
  go_enter Tryz.func98, Tryz.ntmps98
  go_wp2_with (go_at_call 116; refine (add_fp128 (W64.lw x) (W64.hwP hx) (W64.lw y) (W64.hwP hy) hco hfo hco' hfo' hco hco' hca hca').mono ?_; rintro e w' ⟨rfl, hx⟩)
  go_end0
  exact ⟨rfl, by rw [← E.out.1, ← E.out.2]; exact hx⟩
end Go.Proofs.YtlmmdldjfpdcfaaGreatDoor

/-
  fp128's numbers: one read from sixteen bytes, told whether it lies below the field's order.
-/
namespace Go.Proofs.YtlmmdldjfpdcfaaGreatDoor
open Go.RowKit

theorem leL_append (l l' : List Nat) : leL (l ++ l') = leL l + 256 ^ l.length * leL l' := by
  induction l with
  | nil => simp [leL]
  | cons a l ih => simp only [List.cons_append, leL, ih, List.length_cons, Nat.pow_succ]; rw [Nat.mul_add, Nat.add_assoc, Nat.mul_comm (256 ^ _) 256, Nat.mul_assoc]
theorem leL16 (l : List Nat) (hl : l.length = 16) (hlt : ∀ x ∈ l, x < 256) : ((leL (l.take 8) : Nat) : Int) = lw (leL l) ∧ ((leL (l.drop 8) : Nat) : Int) = hw (leL l) := by
  have h := leL_append (l.take 8) (l.drop 8)
  have h1 := leL_lt (l.take 8) (fun x hx => hlt x (List.mem_of_mem_take hx))
  have e : (l.take 8).length = 8 := by rw [List.length_take]; omega
  rw [List.take_append_drop, e] at h
  rw [e] at h1
  have hp : (256 : Nat) ^ 8 = 18446744073709551616 := by decide
  rw [hp] at h h1
  unfold lw hw
  omega
theorem lt128 (v : Nat) (h : v < R128) : ((decide (hw v < 18446744073709551588)) || (decide (hw v = 18446744073709551588) && decide (lw v < 1))) = decide (v < P128) := by
  rw [← Bool.decide_and, ← Bool.decide_or]
  refine decide_eq_decide.2 ?_
  unfold lw hw
  simp only [P128, R128] at *
  omega

theorem inRange128 {b : Nat} {w : World} {t : TypeId} (l : List Nat) (hl : l.length = 16) (hlt : ∀ x ∈ l, x < 256) (hb : w.heap[b]? = some (.cells (u8s l).toArray t (0, 0))) :
    Calls Tryz.prog 166 #[.pointer (some ⟨b, 0, none⟩)] w fun e w' =>
      e = .returned (.tuple #[.agg #[.int .u64 (lw (leL l)), .int .u64 (hw (leL l))], .bool (decide (leL l < P128))]) ∧ Ext w w' No := by
  have hc : ∀ i, i < 8 → ∀ o, (w.alloc o).cell? ⟨b, 0 + i, none⟩ = some (.int .u8 ((l.take 8).getD i 0 : Nat)) := by
    intro i hi o
    have h1 := blk_cell hb i
    rw [u8s_cell l i (by omega)] at h1
    rw [Nat.zero_add]
    refine cell_alloc (h1.trans ?_) o
    simp [List.getD, hi]
  have hc2 : ∀ i, i < 8 → ∀ o, (w.alloc o).cell? ⟨b, 8 + i, none⟩ = some (.int .u8 ((l.drop 8).getD i 0 : Nat)) := by
    intro i hi o
    have h1 := blk_cell hb (8 + i)
    rw [u8s_cell l (8 + i) (by omega)] at h1
    refine cell_alloc (h1.trans ?_) o
    simp [List.getD]
  have hE := leL16 l hl hlt
  have hr : leL l < R128 := by
    have h := leL_lt l hlt
    rw [hl] at h
    exact Nat.lt_of_lt_of_le h (by decide)
  have hd := lt128 _ hr
  have l1 : (l.take 8).length = 8 := by rw [List.length_take]; omega
  have l2 : (l.drop 8).length = 8 := by rw [List.length_drop]; omega
  have t1 : ∀ x ∈ l.take 8, x < 256 := fun x hx => hlt x (List.mem_of_mem_take hx)
  have t2 : ∀ x ∈ l.drop 8, x < 256 := fun x hx => hlt x (List.mem_of_mem_drop hx)
  have Hb := Lib.hid hb; clear hb
  have Hl := Lib.hid hl; clear hl
  have Hlt := Lib.hid hlt; clear hlt
  have Hc := Lib.hid hc; clear hc
  have Hc2 := Lib.hid hc2; clear hc2
  have Hd := Lib.hid hd; clear hd
  have HE := Lib.hid hE; clear hE
  have L1 := Lib.hid l1; clear l1
  have L2 := Lib.hid l2; clear l2
  have T1 := Lib.hid t1; clear t1
  have T2 := Lib.hid t2; clear t2
  generalize hv : leL l = v at *
  have K2 := le64 (b := b) (o := 8) (n := 8) (c := 8) (w := w.alloc (.cells #[.int .u64 0, .int .u64 0] 51)) (l.drop 8) L2.out T2.out (by omega) (by omega) (fun i hi => Hc2.out i hi _)
  have K1 := fun u => le64 (b := b) (o := 0) (n := 8) (c := 16) (w := w.alloc (.cells #[.int .u64 0, u] 51)) (l.take 8) L1.out T1.out (by omega) (by omega) (fun i hi => Hc.out i hi _)
  clear Hb Hlt Hc Hc2
  have hfin : Ext w (w.alloc (.cells #[.int .u64 (lw v), .int .u64 (hw v)] 51)) No := (Ext.refl w No).alloc _
  by_cases h1 : hw v < 18446744073709551588
  · have D1 : decide (hw v < 18446744073709551588) = true := decide_eq_true h1
    have D4 : decide (v < P128) = true := by rw [← Hd.out, D1]; rfl
    go_enter Tryz.func166, Tryz.ntmps166
    go_wp2_with (first
      | (go_at_call 156; (with_reducible refine K2.mono ?_); rintro e w' ⟨rfl, rfl⟩; rw [HE.out.2])
      | (go_at_call 156; (with_reducible refine (K1 _).mono ?_); rintro e w' ⟨rfl, rfl⟩; rw [HE.out.1]))
    refine bodyPost_ret (v := .tuple #[.agg #[.int .u64 (lw v), .int .u64 (hw v)], .bool (decide (v < P128))]) (by simp [results, Tryz.results166, go_sem, D4]) rfl ⟨rfl, hfin⟩
  · have D1 : decide (hw v < 18446744073709551588) = false := decide_eq_false h1
    by_cases h2 : hw v = 18446744073709551588
    · have D2 : decide (hw v = 18446744073709551588) = true := decide_eq_true h2
      by_cases h3 : lw v < 1
      · have D3 : decide (lw v < 1) = true := decide_eq_true h3
        have D4 : decide (v < P128) = true := by rw [← Hd.out, D1, D2, D3]; rfl
        go_enter Tryz.func166, Tryz.ntmps166
        go_wp2_with (first
      | (go_at_call 156; (with_reducible refine K2.mono ?_); rintro e w' ⟨rfl, rfl⟩; rw [HE.out.2])
      | (go_at_call 156; (with_reducible refine (K1 _).mono ?_); rintro e w' ⟨rfl, rfl⟩; rw [HE.out.1]))
        refine bodyPost_ret (v := .tuple #[.agg #[.int .u64 (lw v), .int .u64 (hw v)], .bool (decide (v < P128))]) (by simp [results, Tryz.results166, go_sem, D4, h2]) rfl ⟨rfl, by rw [h2] at hfin; exact hfin⟩
      · have D3 : decide (lw v < 1) = false := decide_eq_false h3
        have D4 : decide (v < P128) = false := by rw [← Hd.out, D1, D2, D3]; rfl
        go_enter Tryz.func166, Tryz.ntmps166
        go_wp2_with (first
      | (go_at_call 156; (with_reducible refine K2.mono ?_); rintro e w' ⟨rfl, rfl⟩; rw [HE.out.2])
      | (go_at_call 156; (with_reducible refine (K1 _).mono ?_); rintro e w' ⟨rfl, rfl⟩; rw [HE.out.1]))
        refine bodyPost_ret (v := .tuple #[.agg #[.int .u64 (lw v), .int .u64 (hw v)], .bool (decide (v < P128))]) (by simp [results, Tryz.results166, go_sem, D4, h2]) rfl ⟨rfl, by rw [h2] at hfin; exact hfin⟩
    · have D2 : decide (hw v = 18446744073709551588) = false := decide_eq_false h2
      have D4 : decide (v < P128) = false := by rw [← Hd.out, D1, D2]; rfl
      go_enter Tryz.func166, Tryz.ntmps166
      go_wp2_with (first
      | (go_at_call 156; (with_reducible refine K2.mono ?_); rintro e w' ⟨rfl, rfl⟩; rw [HE.out.2])
      | (go_at_call 156; (with_reducible refine (K1 _).mono ?_); rintro e w' ⟨rfl, rfl⟩; rw [HE.out.1]))
      refine bodyPost_ret (v := .tuple #[.agg #[.int .u64 (lw v), .int .u64 (hw v)], .bool (decide (v < P128))]) (by simp [results, Tryz.results166, go_sem, D4]) rfl ⟨rfl, hfin⟩
end Go.Proofs.YtlmmdldjfpdcfaaGreatDoor

/-
  fp64's numbers: one read from the text (Fp.Unmarshal).
-/
namespace Go.Proofs.YtlmmdldjfpdcfaaGreatDoor
open Go.RowKit

theorem unm64_short {sb zb zo : Nat} {w : World} {a : Option Addr} {m c : Nat} (hs : w.heap[sb]? = some (.cells #[.slice a m c] 219 (0, 0))) (hlt : m < 8) :
    Calls Tryz.prog 150 #[.pointer (some ⟨zb, zo, none⟩), .pointer (some ⟨sb, 0, none⟩)] w fun e w' => e = .returned (.bool false) ∧ Ext w w' No := by
  have Hs := Lib.hid hs; clear hs
  go_enter Tryz.func150, Tryz.ntmps150
  go_wp2_with (go_at_call 154; refine (copy_short (blk_alloc Hs.out _) hlt).mono ?_; rintro e w' ⟨rfl, rfl⟩)
  go_ret
  exact ⟨rfl, (Ext.refl w No).alloc _⟩

/-- What is left of a slice behind its first n places. -/
def cutA (b o c n : Nat) : Option Addr := if c = n then some ⟨b, o, none⟩ else some ⟨b, o + n, none⟩

theorem unm64_some {sb zb zo : Nat} {w : World} {b o m c : Nat} {cz : Array Value} {zt : TypeId} (l : List Nat)
    (hs : w.heap[sb]? = some (.cells #[.slice (some ⟨b, o, none⟩) m c] 219 (0, 0))) (hz : w.heap[zb]? = some (.cells cz zt (0, 0))) (hne : zb ≠ sb) (hzo : zo < cz.size)
    (hn : 8 ≤ m) (hmc : m ≤ c) (hc : c ≤ 140737488351232) (hlm : l.length = m) (hlt : ∀ x ∈ l, x < 256)
    (hcell : ∀ i, i < m → w.cell? ⟨b, o + i, none⟩ = some (.int .u8 (l.getD i 0 : Nat))) :
    Calls Tryz.prog 150 #[.pointer (some ⟨zb, zo, none⟩), .pointer (some ⟨sb, 0, none⟩)] w fun e w' =>
      e = .returned (.bool (decide (leL (l.take 8) < P64))) ∧
        (¬ leL (l.take 8) < P64 → Ext w w' (fun k => k = sb)) ∧
        (leL (l.take 8) < P64 → Ext w w' (fun k => k = sb ∨ k = zb) ∧ w'.heap[sb]? = some (.cells #[.slice (cutA b o c 8) (m - 8) (c - 8)] 219 (0, 0)) ∧
          w'.heap[zb]? = some (.cells (cz.setIfInBounds zo (.int .u64 (tom64 (leL (l.take 8)) : Nat))) zt (0, 0))) := by
  have lz := lt_of_blk hz
  have ls := lt_of_blk hs
  have Hs := Lib.hid hs; clear hs
  have Hz := Lib.hid hz; clear hz
  have Hl := Lib.hid hlm; clear hlm
  have Hlt := Lib.hid hlt; clear hlt
  have Hcell := Lib.hid hcell; clear hcell
  have Hzo := Lib.hid hzo; clear hzo
  have e8 : (l.take 8).length = 8 := by rw [List.length_take, Hl.out]; omega
  have E8 := Lib.hid e8; clear e8
  have t8 : ∀ x ∈ l.take 8, x < 256 := fun x hx => Hlt.out x (List.mem_of_mem_take hx)
  have T8 := Lib.hid t8; clear t8
  generalize hv : leL (l.take 8) = v at *
  have Hv := Lib.hid hv; clear hv
  obtain ⟨uz, huz⟩ : ∃ u, cz[zo]? = some u := ⟨_, Array.getElem?_eq_getElem Hzo.out⟩
  have Huz := Lib.hid huz; clear huz
  have nz : ¬ (zb = w.heap.size ∨ zb = sb) := by omega
  have ns : ¬ (sb = zb) := fun e => hne e.symm
  by_cases hp : v < P64
  · have hd : decide (v < P64) = true := decide_eq_true hp
    go_enter Tryz.func150, Tryz.ntmps150
    go_wp2_with (first
      | (go_at_call 154; refine (copy_some (n := 8) l (blk_alloc Hs.out _) (blk_new _ _) (Nat.ne_of_lt ls) rfl (by decide) hn hmc hc Hl.out (fun i hi => cell_alloc (Hcell.out i hi) _)).mono ?_; rintro e w1 ⟨rfl, hx1, hb1, hs1⟩; have HB1 := Lib.hid hb1; clear hb1; have HS1 := Lib.hid hs1; clear hs1)
      | (go_at_call 155; refine (inRange64 (l.take 8) E8.out T8.out HB1.out).mono ?_; rintro e w2 ⟨rfl, hx2⟩; rw [Hv.out]; have hz2 := hx2.blkNo (hx1.blk (blk_alloc Hz.out _) nz); have lz2 := lt_of_blk hz2; have kz : ∀ o, (w2.alloc o).cell? ⟨zb, zo, none⟩ = some uz := fun o => cell_alloc ((blk_cell hz2 zo).trans Huz.out) o; have kf : ∀ o, (w2.alloc o).frozen? ⟨zb, zo, none⟩ = false := fun o => frz_alloc lz2 (blk_frz hz2 zo) o; have HZ2 := Lib.hid hz2; clear hz2)
      | (go_at_call 88; refine (toMont64 hp (cell_alloc (World.cell?_setCell_same _ _ _ ((blk_cell HZ2.out zo).trans Huz.out)) _) (blk_frz (blk_alloc (blk_set HZ2.out _ _) _) _)).mono ?_; rintro e w3 ⟨rfl, hx3⟩))
    go_ret
    refine ⟨by rw [hd]; rfl, fun h => (h hp).elim, fun _ => ⟨?_, ?_, ?_⟩⟩
    · refine Ext.transNo ?_ hx3
      have e1 : Ext w w1 (fun k => k = sb ∨ k = zb) := ((Ext.refl w _).alloc _).trans hx1 (fun i hi h => by rcases h with rfl | rfl <;> first | omega | exact .inl rfl)
      exact (((e1.transNo hx2).set (.inr (.inr rfl)) _).alloc _).set (.inr (.inr rfl)) _
    · exact hx3.blkNo (blk_set_ne (blk_alloc (blk_set_ne (hx2.blkNo HS1.out) ns _) _) ns _)
    · have h := hx3.blkNo (blk_set (blk_alloc (blk_set HZ2.out zo (.int .u64 (v : Nat))) _) zo (.int .u64 (tom64 v : Nat)))
      rw [Array.setIfInBounds_setIfInBounds] at h
      exact h
  · have hd : decide (v < P64) = false := decide_eq_false hp
    go_enter Tryz.func150, Tryz.ntmps150
    go_wp2_with (first
      | (go_at_call 154; refine (copy_some (n := 8) l (blk_alloc Hs.out _) (blk_new _ _) (Nat.ne_of_lt ls) rfl (by decide) hn hmc hc Hl.out (fun i hi => cell_alloc (Hcell.out i hi) _)).mono ?_; rintro e w1 ⟨rfl, hx1, hb1, hs1⟩; have HB1 := Lib.hid hb1; clear hb1; clear hs1)
      | (go_at_call 155; refine (inRange64 (l.take 8) E8.out T8.out HB1.out).mono ?_; rintro e w2 ⟨rfl, hx2⟩; rw [Hv.out]))
    go_ret
    refine ⟨by rw [hd]; rfl, fun _ => ?_, fun h => (hp h).elim⟩
    have e1 : Ext w w1 (fun k => k = sb) := ((Ext.refl w _).alloc _).trans hx1 (fun i hi h => by rcases h with rfl | rfl <;> first | omega | exact rfl)
    exact (e1.transNo hx2).alloc _
end Go.Proofs.YtlmmdldjfpdcfaaGreatDoor
