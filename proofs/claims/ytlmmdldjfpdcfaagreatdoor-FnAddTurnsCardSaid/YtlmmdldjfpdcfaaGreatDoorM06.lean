/-
  fp128's vectors: written to the builder (Vec.Marshal), added in place (Vec.AddAssign).
-/
import Derived.Test.YtlmmdldjfpdcfaaGreatDoorM05
import Derived.Test.YtlmmdldjfpdcfaaGreatDoorM01
namespace Go.Proofs.YtlmmdldjfpdcfaaGreatDoor
open Go.RowKit

def out128 (v : Nat) : List Nat := bytesL 16 (val128 v)
theorem out128_len (v : Nat) : (out128 v).length = 16 := bytesL_len _ _

theorem vecMar128 {base vb n vc bb g cap : Nat} {done vs : List Nat} {w : World} {vt : TypeId} (hlen : vs.length = n) (hlt : ∀ i, i < n → vs.getD i 0 < P128) (hv : w.heap[vb]? = some (.cells (vecC enc128 vs).toArray vt (0, 0)))
    (hB : Bld base w bb g cap done) (hne : bb ≠ g) (hvb : vb ≠ bb) (hvg : vb ≠ g) (hn : n ≤ 1000) (hroom : done.length + n * 16 ≤ cap) (hcap : cap ≤ 100000) :
    Calls Tryz.prog 160 #[.slice (some ⟨vb, 0, none⟩) n vc, .pointer (some ⟨bb, 0, none⟩)] w fun e w' =>
      e = .returned .nilIface ∧ Ext w w' (fun k => k = bb ∨ k = g) ∧ Bld base w' bb g cap (done ++ flat out128 vs) := by
  have H0 : Hid (Ext w w (fun k => k = bb ∨ k = g) ∧ Bld base w bb g cap (done ++ flat out128 (vs.take 0))) := ⟨Ext.refl _ _, by simpa [flat] using hB⟩
  clear hB
  have Hlen := Lib.hid hlen; clear hlen
  have Hlt := Lib.hid hlt; clear hlt
  have Hv := Lib.hid hv; clear hv
  go_enter Tryz.func160, Tryz.ntmps160
  go_wp2
  go_loopw [8] (fun i wr => ∃ k : Nat, k ≤ n ∧ i = .int .i64 k ∧ Hid (Ext w wr (fun k => k = bb ∨ k = g) ∧ Bld base wr bb g cap (done ++ flat out128 (vs.take k)))) (fun i _ => n - (intOf i).toNat)
  case atStart => exact ⟨0, by omega, rfl, H0⟩
  case round =>
    obtain ⟨k, hk, rfl, hR⟩ := hrel
    by_cases hkn : k = n
    · subst hkn
      go_wp2
      go_ret
      obtain ⟨hx, hB⟩ := hR.out
      rw [List.take_of_length_le (by rw [Hlen.out]; omega)] at hB
      exact ⟨rfl, hx, hB⟩
    · have hlk : k < n := by omega
      have hc : w.cell? ⟨vb, k * 2, none⟩ = some (.int .u64 (lw (vs.getD k 0))) := by rw [blk_cell Hv.out, List.getElem?_toArray, vecC128_get0 _ _ (by rw [Hlen.out]; exact hlk)]
      have hd : w.cell? ⟨vb, k * 2 + 1, none⟩ = some (.int .u64 (hw (vs.getD k 0))) := by rw [blk_cell Hv.out, List.getElem?_toArray, vecC128_get1 _ _ (by rw [Hlen.out]; exact hlk)]
      have hc' := hR.out.1.cell hc (by simp; exact ⟨hvb, hvg⟩)
      have hd' := hR.out.1.cell hd (by simp; exact ⟨hvb, hvg⟩)
      have hl : (done ++ flat out128 (vs.take k)).length + 16 ≤ cap := by
        rw [List.length_append, flat_len _ 16 out128_len, List.length_take, Hlen.out]
        have := Nat.min_eq_left (by omega : k ≤ n)
        omega
      have hvk := Hlt.out k hlk
      have HC := Lib.hid hc'; clear hc' hc
      have HD := Lib.hid hd'; clear hd' hd
      have HL := Lib.hid hl; clear hl
      have HVK := Lib.hid hvk; clear hvk
      go_wp2_with (go_at_call 163; refine (marshal128 HVK.out HC.out HD.out hR.out.2 hne HL.out hcap).mono ?_; rintro e w1 ⟨rfl, hx1, hB1⟩; have HB1 := Lib.hid hB1; clear hB1)
      exact ⟨⟨k + 1, by omega, by go_num, hR.out.1.trans hx1 (fun _ _ h => h), by
        have h := HB1.out
        rw [take_snocD _ _ (by rw [Hlen.out]; exact hlk), flat_snoc, ← List.append_assoc]
        exact h⟩, by simp [intOf]; omega⟩

theorem sameLen128 {a b : Option Addr} {n c d : Nat} {w : World} : Calls Tryz.prog 288 #[.slice a n c, .slice b n d] w fun e w' => e = .returned (.tuple #[]) ∧ w = w' := by
  go_enter Tryz.func288, Tryz.ntmps288
  go_wp2
  go_end0
  exact ⟨rfl, rfl⟩

theorem vecAdd128 {vb xb n vc xc : Nat} {vs xs : List Nat} {w : World} {vt xt : TypeId} (hlv : vs.length = n) (hlx : xs.length = n) (hv : ∀ i, i < n → vs.getD i 0 < P128) (hx : ∀ i, i < n → xs.getD i 0 < P128)
    (hbv : w.heap[vb]? = some (.cells (vecC enc128 vs).toArray vt (0, 0))) (hbx : w.heap[xb]? = some (.cells (vecC enc128 xs).toArray xt (0, 0))) (hne : xb ≠ vb) (hn : n ≤ 1000) :
    Calls Tryz.prog 287 #[.slice (some ⟨vb, 0, none⟩) n vc, .slice (some ⟨xb, 0, none⟩) n xc] w fun e w' =>
      e = .returned (.tuple #[]) ∧ Ext w w' (fun k => k = vb) ∧ w'.heap[vb]? = some (.cells (vecC enc128 (addN P128 vs xs)).toArray vt (0, 0)) := by
  have H0 : Hid (Ext w w (fun k => k = vb) ∧ w.heap[vb]? = some (.cells (putL (vecC enc128 vs).toArray 0 (vecC enc128 ((addN P128 vs xs).take 0))) vt (0, 0))) := ⟨Ext.refl _ _, hbv⟩
  have Hlv := Lib.hid hlv; clear hlv
  have Hlx := Lib.hid hlx; clear hlx
  have Hv := Lib.hid hv; clear hv
  have Hx := Lib.hid hx; clear hx
  have Hbv := Lib.hid hbv; clear hbv
  have Hbx := Lib.hid hbx; clear hbx
  go_enter Tryz.func287, Tryz.ntmps287
  go_wp2_with (go_at_call 288; refine sameLen128.mono ?_; rintro e w' ⟨rfl, rfl⟩)
  go_loopw [10] (fun i wr => ∃ k : Nat, k ≤ n ∧ i = .int .i64 k ∧ Hid (Ext w wr (fun k => k = vb) ∧ wr.heap[vb]? = some (.cells (putL (vecC enc128 vs).toArray 0 (vecC enc128 ((addN P128 vs xs).take k))) vt (0, 0)))) (fun i _ => n - (intOf i).toNat)
  case atStart => exact ⟨0, by omega, rfl, H0⟩
  case round =>
    obtain ⟨k, hk, rfl, hR⟩ := hrel
    have hla : (addN P128 vs xs).length = n := by rw [addN_len _ _ _ (by rw [Hlv.out, Hlx.out]), Hlv.out]
    by_cases hkn : k = n
    · subst hkn
      have Hla := Lib.hid hla; clear hla
      go_wp2
      go_end0
      obtain ⟨hx, hB⟩ := hR.out
      rw [List.take_of_length_le (by rw [Hla.out]; omega), putL_all _ _ (by simp [vecC_len128, Hla.out, Hlv.out])] at hB
      exact ⟨rfl, hx, hB⟩
    · have hlk : k < n := by omega
      have c1 : wr.cell? ⟨vb, k * 2, none⟩ = some (.int .u64 (lw (vs.getD k 0))) := by
        rw [blk_cell hR.out.2, putL_get_ge _ _ _ _ (by rw [vecC_len128, List.length_take]; omega), List.getElem?_toArray, vecC128_get0 _ _ (by rw [Hlv.out]; exact hlk)]
      have d1 : wr.cell? ⟨vb, k * 2 + 1, none⟩ = some (.int .u64 (hw (vs.getD k 0))) := by
        rw [blk_cell hR.out.2, putL_get_ge _ _ _ _ (by rw [vecC_len128, List.length_take]; omega), List.getElem?_toArray, vecC128_get1 _ _ (by rw [Hlv.out]; exact hlk)]
      have f1 : wr.frozen? ⟨vb, k * 2, none⟩ = false := blk_frz hR.out.2 (k * 2)
      have g1 : wr.frozen? ⟨vb, k * 2 + 1, none⟩ = false := blk_frz hR.out.2 (k * 2 + 1)
      have c2 : w.cell? ⟨xb, k * 2, none⟩ = some (.int .u64 (lw (xs.getD k 0))) := by rw [blk_cell Hbx.out, List.getElem?_toArray, vecC128_get0 _ _ (by rw [Hlx.out]; exact hlk)]
      have d2 : w.cell? ⟨xb, k * 2 + 1, none⟩ = some (.int .u64 (hw (xs.getD k 0))) := by rw [blk_cell Hbx.out, List.getElem?_toArray, vecC128_get1 _ _ (by rw [Hlx.out]; exact hlk)]
      have c3 := hR.out.1.cell c2 hne
      have d3 := hR.out.1.cell d2 hne
      clear d2
      clear c2
      have i1 : (0 : Int) ≤ (k : Int) := by omega
      have i2 : (k : Int) < (n : Int) := by omega
      have Hla := Lib.hid hla; clear hla
      have C1 := Lib.hid c1; clear c1
      have C3 := Lib.hid c3; clear c3
      have F1 := Lib.hid f1; clear f1
      have D1 := Lib.hid d1; clear d1
      have D3 := Lib.hid d3; clear d3
      have G1 := Lib.hid g1; clear g1
      go_wp2_with fail
      go_region_with (go_at_call 98; refine (addAssign128 (w := wr.drew) (Hv.out k hlk) (Hx.out k hlk) C1.out F1.out D1.out G1.out C3.out D3.out).mono ?_; rintro e w1 ⟨rfl, hx1⟩)
      go_wp2
      have hB := hx1.blkNo (blk_set (blk_set (w := wr.drew) hR.out.2 (k * 2) (.int .u64 (lw ((vs.getD k 0 + xs.getD k 0) % P128)))) (k * 2 + 1) (.int .u64 (hw ((vs.getD k 0 + xs.getD k 0) % P128))))
      refine ⟨⟨k + 1, by omega, by go_num, (((hR.out.1.drew).set (.inr rfl) _).set (.inr rfl) _).transNo hx1, ?_⟩, by simp [intOf]; omega⟩
      rw [take_snocD _ _ (by rw [Hla.out]; exact hlk), vecC_snoc, putL_enc128, vecC_len128, List.length_take, Hla.out, Nat.min_eq_left (by omega), Nat.zero_add, Nat.mul_comm 2 k, addN_get _ _ _ _ (by rw [Hlv.out, Hlx.out]) (by rw [Hlv.out]; exact hlk)]
      exact hB
end Go.Proofs.YtlmmdldjfpdcfaaGreatDoor

/-
  spec: numbers of two words told apart (less), the fields (fieldOf).
-/
namespace Go.Proofs.YtlmmdldjfpdcfaaGreatDoor
open Go.RowKit

def two (v : Nat) : Value := .agg #[.int .u64 (lw v), .int .u64 (hw v)]
theorem lt_two (a b : Nat) : (decide (hw a < hw b) || (decide (hw a = hw b) && decide (lw a < lw b))) = decide (a < b) := by
  rw [← Bool.decide_and, ← Bool.decide_or]
  refine decide_eq_decide.2 ?_
  unfold lw hw
  omega
theorem specLess (a b : Nat) (w : World) : Calls Tryz.prog 40 #[two a, two b] w fun e w' => e = .returned (.bool (decide (a < b))) ∧ Ext w w' No := by
  have hd := lt_two a b
  unfold two
  generalize lw a = a0 at *
  generalize lw b = b0 at *
  generalize hw a = a1 at *
  generalize hw b = b1 at *
  have Hd := Lib.hid hd; clear hd
  by_cases h1 : a1 < b1
  · have d1 : decide (a1 < b1) = true := decide_eq_true h1
    have d4 : decide (a < b) = true := by rw [← Hd.out, d1]; rfl
    clear h1
    go_enter Tryz.func40, Tryz.ntmps40
    go_wp2
    go_ret
    first
          | exact ⟨rfl, ((Ext.refl w No).alloc _).alloc _⟩
          | exact ⟨by rw [d4]; rfl, ((Ext.refl w No).alloc _).alloc _⟩
  · have d1 : decide (a1 < b1) = false := decide_eq_false h1
    by_cases h2 : a1 = b1
    · subst h2
      by_cases h3 : a0 < b0
      · have d3 : decide (a0 < b0) = true := decide_eq_true h3
        have d4 : decide (a < b) = true := by rw [← Hd.out, d1, d3]; simp
        clear h3 h1
        go_enter Tryz.func40, Tryz.ntmps40
        go_wp2
        go_ret
        first
          | exact ⟨rfl, ((Ext.refl w No).alloc _).alloc _⟩
          | exact ⟨by rw [d4]; rfl, ((Ext.refl w No).alloc _).alloc _⟩
      · have d3 : decide (a0 < b0) = false := decide_eq_false h3
        have d4 : decide (a < b) = false := by rw [← Hd.out, d1, d3]; simp
        clear h3 h1
        go_enter Tryz.func40, Tryz.ntmps40
        go_wp2
        go_ret
        first
          | exact ⟨rfl, ((Ext.refl w No).alloc _).alloc _⟩
          | exact ⟨by rw [d4]; rfl, ((Ext.refl w No).alloc _).alloc _⟩
    · have d2 : decide (a1 = b1) = false := decide_eq_false h2
      have d2' : (a1 == b1) = false := by simpa using h2
      have d4 : decide (a < b) = false := by rw [← Hd.out, d1, d2]; rfl
      clear h2 h1
      go_enter Tryz.func40, Tryz.ntmps40
      go_wp2
      go_ret
      first
          | exact ⟨rfl, ((Ext.refl w No).alloc _).alloc _⟩
          | exact ⟨by rw [d4]; rfl, ((Ext.refl w No).alloc _).alloc _⟩

/-- A field, as spec has it. -/
def fieldV (p sz r0 r1 x : Nat) : Value := .agg #[.int .u64 (lw p), .int .u64 (hw p), .int .i64 (sz : Nat), .int .u64 (r0 : Nat), .int .u64 (r1 : Nat), .int .i64 (x : Nat)]
theorem fieldOf64 {k : Int} (hk : k = 1 ∨ k = 2) (w : World) : Calls Tryz.prog 38 #[.int .i64 k] w fun e w' => e = .returned (fieldV P64 8 1753635133440165772 0 32) ∧ Ext w w' No := by
  have e1 : lw P64 = 18446744069414584321 := by decide
  have e2 : hw P64 = 0 := by decide
  unfold fieldV
  rw [e1, e2]
  rcases hk with rfl | rfl
  · go_enter Tryz.func38, Tryz.ntmps38
    go_wp2
    refine bodyPost_ret (v := _) (by simp [results, Tryz.results38, go_sem]) rfl ⟨rfl, (Ext.refl w No).alloc _⟩
  · go_enter Tryz.func38, Tryz.ntmps38
    go_wp2
    refine bodyPost_ret (v := _) (by simp [results, Tryz.results38, go_sem]) rfl ⟨rfl, (Ext.refl w No).alloc _⟩
theorem fieldOf128 {k : Int} (hk : k = 3 ∨ k = 4 ∨ k = 5) (w : World) : Calls Tryz.prog 38 #[.int .i64 k] w fun e w' => e = .returned (fieldV P128 16 2277457303077691142 7865413326059086475 66) ∧ Ext w w' No := by
  have e1 : lw P128 = 1 := by decide
  have e2 : hw P128 = 18446744073709551588 := by decide
  unfold fieldV
  rw [e1, e2]
  rcases hk with rfl | rfl | rfl
  · go_enter Tryz.func38, Tryz.ntmps38
    go_wp2
    refine bodyPost_ret (v := _) (by simp [results, Tryz.results38, go_sem]) rfl ⟨rfl, (Ext.refl w No).alloc _⟩
  · go_enter Tryz.func38, Tryz.ntmps38
    go_wp2
    refine bodyPost_ret (v := _) (by simp [results, Tryz.results38, go_sem]) rfl ⟨rfl, (Ext.refl w No).alloc _⟩
  · go_enter Tryz.func38, Tryz.ntmps38
    go_wp2
    refine bodyPost_ret (v := _) (by simp [results, Tryz.results38, go_sem]) rfl ⟨rfl, (Ext.refl w No).alloc _⟩
end Go.Proofs.YtlmmdldjfpdcfaaGreatDoor

/-
  spec.add.
-/
namespace Go.Proofs.YtlmmdldjfpdcfaaGreatDoor
open Go.RowKit
attribute [local go_sem] add64 sub64 W64.as W64.ss W64.ac W64.sc W64.lo W64.hi B01.ac B01.sc B01.zero B01.one W64.zero

theorem hwR {v : Nat} (h : v < R128) : W64 (hw v) := W64.hw h
theorem sum_two (a b : Nat) : as64 (lw a) (lw b) 0 = lw ((a + b) % R128) ∧ as64 (hw a) (hw b) (ac64 (lw a) (lw b) 0) = hw ((a + b) % R128) ∧
    ac64 (hw a) (hw b) (ac64 (lw a) (lw b) 0) = if a + b < R128 then 0 else 1 := by
  simp only [R128]
  unfold as64 ac64 lw hw
  refine ⟨by omega, ?_, ?_⟩
  · split <;> omega
  · split <;> split <;> (split <;> first | omega | (exfalso; omega) | skip) <;> omega
theorem dif_two (s p : Nat) (hs : s < R128) (hp : p < R128) : ss64 (lw s) (lw p) 0 = lw ((s + R128 - p) % R128) ∧ ss64 (hw s) (hw p) (sc64 (lw s) (lw p) 0) = hw ((s + R128 - p) % R128) := by
  simp only [R128] at *
  unfold ss64 sc64 lw hw
  refine ⟨by omega, ?_⟩
  split <;> omega

theorem size_alloc (w : World) (o : Obj) : (w.alloc o).heap.size = w.heap.size + 1 := by simp
theorem at5 (w : World) (A B C D E : Obj) : (((((w.alloc A).alloc B).alloc C).alloc D).alloc E).heap[w.heap.size]? = some A ∧ (((((w.alloc A).alloc B).alloc C).alloc D).alloc E).heap[w.heap.size + 1 + 1 + 1]? = some D ∧
    (((((w.alloc A).alloc B).alloc C).alloc D).alloc E).heap[w.heap.size + 1 + 1 + 1 + 1]? = some E := by
  refine ⟨blk_alloc (blk_alloc (blk_alloc (blk_alloc (blk_new _ _) _) _) _) _, ?_, ?_⟩
  · have h := blk_alloc (blk_new (((w.alloc A).alloc B).alloc C) D) E
    rw [size_alloc, size_alloc, size_alloc] at h
    exact h
  · have h := blk_new ((((w.alloc A).alloc B).alloc C).alloc D) E
    rw [size_alloc, size_alloc, size_alloc, size_alloc] at h
    exact h
theorem specLess' (a b : Nat) (w : World) : Calls Tryz.prog 40 #[.agg #[.int .u64 (lw a), .int .u64 (hw a)], .agg #[.int .u64 (lw b), .int .u64 (hw b)]] w fun e w' => e = .returned (.bool (decide (a < b))) ∧ Ext w w' No := specLess a b w

theorem specAdd {a b r0 r1 x sz : Nat} (p : Nat) (w : World) (ha : a < p) (hb : b < p) (hp : p < R128) : Calls Tryz.prog 23 #[fieldV p sz r0 r1 x, two a, two b] w fun e w' => e = .returned (two ((a + b) % p)) ∧ Ext w w' No := by
  obtain ⟨e0, e1, e2⟩ := sum_two a b
  have hS : (a + b) % R128 < R128 := Nat.mod_lt _ (by decide)
  obtain ⟨g0, g1⟩ := dif_two ((a + b) % R128) p hS hp
  have v0 := W64.lw a
  have v1 := W64.lw b
  have v2 := hwR (Nat.lt_trans ha hp)
  have v3 := hwR (Nat.lt_trans hb hp)
  have v4 := W64.lw p
  have v5 := hwR hp
  have v6 := W64.lw ((a + b) % R128)
  have v7 := hwR hS
  have hfin : ∀ r, r = (a + b) % p → two r = two ((a + b) % p) := fun r h => by rw [h]
  have hmod : a + b < p → (a + b) % R128 = (a + b) % p := fun h => by rw [Nat.mod_eq_of_lt h, Nat.mod_eq_of_lt (Nat.lt_trans h hp)]
  have hsub : p ≤ a + b → ((a + b) % R128 + R128 - p) % R128 = (a + b) % p := fun h => by
    have h2 : (a + b) % p = a + b - p := by rw [Nat.mod_eq_sub_mod h, Nat.mod_eq_of_lt (by omega)]
    rw [h2]
    simp only [R128] at *
    omega
  unfold fieldV two
  generalize hSS : (a + b) % R128 = S at *
  generalize hTT : (S + R128 - p) % R128 = T at *
  have K := specLess' S p
  have hfin1 : S = (a + b) % p → (Value.agg #[.int .u64 (lw S), .int .u64 (hw S)]) = .agg #[.int .u64 (lw ((a + b) % p)), .int .u64 (hw ((a + b) % p))] := fun h => by rw [h]
  have hfin2 : T = (a + b) % p → (Value.agg #[.int .u64 (lw T), .int .u64 (hw T)]) = .agg #[.int .u64 (lw ((a + b) % p)), .int .u64 (hw ((a + b) % p))] := fun h => by rw [h]
  generalize (Value.agg #[.int .u64 (lw ((a + b) % p)), .int .u64 (hw ((a + b) % p))]) = RES at *
  generalize lw a = a0 at *
  generalize hw a = a1 at *
  generalize lw b = b0 at *
  generalize hw b = b1 at *
  generalize lw p = p0 at *
  generalize hw p = p1 at *
  generalize lw S = s0 at *
  generalize hw S = s1 at *
  generalize lw T = t0 at *
  generalize hw T = t1 at *
  have HK := Lib.hid K; clear K
  clear hfin
  by_cases hc : a + b < R128
  · rw [if_pos hc] at e2
    have hSe : S = a + b := by rw [← hSS, Nat.mod_eq_of_lt hc]
    by_cases hl : S < p
    · have D1 : Hid (decide (S < p) = true) := decide_eq_true hl
      have hr := hfin1 (hmod (by omega))
      subst hr
      clear hmod hsub hfin1 hfin2 hc hSe hl hSS hTT g0 g1 hS ha hb hp
      go_enter Tryz.func23, Tryz.ntmps23
      go_wp2_with (go_at_call 40; refine (HK.out _).mono ?_; rintro e w1 ⟨rfl, hx1⟩; rw [D1.out]; obtain ⟨q0, q3, q4⟩ := at5 w _ _ _ _ _; have b0' := hx1.blkNo q0; have b3' := hx1.blkNo q3; have b4' := hx1.blkNo q4; have k40 : w1.cell? ⟨w.heap.size + 1 + 1 + 1 + 1, 0, none⟩ = some (.int .u64 s0) := blk_cell b4' 0; have k41 : w1.cell? ⟨w.heap.size + 1 + 1 + 1 + 1, 1, none⟩ = some (.int .u64 s1) := blk_cell b4' 1; have k30 : w1.cell? ⟨w.heap.size + 1 + 1 + 1, 0, none⟩ = some (.int .u64 0) := blk_cell b3' 0; have k31 : w1.cell? ⟨w.heap.size + 1 + 1 + 1, 1, none⟩ = some (.int .u64 0) := blk_cell b3' 1; have k00 : w1.cell? ⟨w.heap.size, 0, none⟩ = some (.int .u64 p0) := blk_cell b0' 0; have k01 : w1.cell? ⟨w.heap.size, 1, none⟩ = some (.int .u64 p1) := blk_cell b0' 1; have f30 := blk_frz b3' 0; have f31 := blk_frz b3' 1; clear q0 q3 q4 b0' b4'; have HB3 := Lib.hid b3'; clear b3'; have HX1 := Lib.hid hx1; clear hx1)
      have hb := blk_set (blk_set HB3.out 0 (.int .u64 s0)) 1 (.int .u64 s1)
      have z0 := (blk_cell hb 0 : _ = some (Value.int .u64 s0))
      have z1 := (blk_cell hb 1 : _ = some (Value.int .u64 s1))
      have le : w.heap.size ≤ w.heap.size + 1 + 1 + 1 := by omega
      refine bodyPost_ret (v := .agg #[.int .u64 s0, .int .u64 s1]) (by simp [results, Tryz.results23, go_sem, z0, z1]) rfl ⟨rfl, ?_⟩
      exact (((((((Ext.refl w No).alloc _).alloc _).alloc _).alloc _).alloc _).transNo HX1.out).set (.inl le) _ |>.set (.inl le) _
    · have D1 : Hid (decide (S < p) = false) := decide_eq_false hl
      have hr := hfin2 (hsub (by omega))
      subst hr
      clear hmod hsub hfin1 hfin2 hc hSe hl hSS hTT hS ha hb hp
      go_enter Tryz.func23, Tryz.ntmps23
      go_wp2_with (go_at_call 40; refine (HK.out _).mono ?_; rintro e w1 ⟨rfl, hx1⟩; rw [D1.out]; obtain ⟨q0, q3, q4⟩ := at5 w _ _ _ _ _; have b0' := hx1.blkNo q0; have b3' := hx1.blkNo q3; have b4' := hx1.blkNo q4; have k40 : w1.cell? ⟨w.heap.size + 1 + 1 + 1 + 1, 0, none⟩ = some (.int .u64 s0) := blk_cell b4' 0; have k41 : w1.cell? ⟨w.heap.size + 1 + 1 + 1 + 1, 1, none⟩ = some (.int .u64 s1) := blk_cell b4' 1; have k30 : w1.cell? ⟨w.heap.size + 1 + 1 + 1, 0, none⟩ = some (.int .u64 0) := blk_cell b3' 0; have k31 : w1.cell? ⟨w.heap.size + 1 + 1 + 1, 1, none⟩ = some (.int .u64 0) := blk_cell b3' 1; have k00 : w1.cell? ⟨w.heap.size, 0, none⟩ = some (.int .u64 p0) := blk_cell b0' 0; have k01 : w1.cell? ⟨w.heap.size, 1, none⟩ = some (.int .u64 p1) := blk_cell b0' 1; have f30 := blk_frz b3' 0; have f31 := blk_frz b3' 1; clear q0 q3 q4 b0' b4'; have HB3 := Lib.hid b3'; clear b3'; have HX1 := Lib.hid hx1; clear hx1)
      have hb := blk_set (blk_set HB3.out 0 (.int .u64 t0)) 1 (.int .u64 t1)
      have z0 := (blk_cell hb 0 : _ = some (Value.int .u64 t0))
      have z1 := (blk_cell hb 1 : _ = some (Value.int .u64 t1))
      have le : w.heap.size ≤ w.heap.size + 1 + 1 + 1 := by omega
      refine bodyPost_ret (v := .agg #[.int .u64 t0, .int .u64 t1]) (by simp [results, Tryz.results23, go_sem, z0, z1]) rfl ⟨rfl, ?_⟩
      exact (((((((Ext.refl w No).alloc _).alloc _).alloc _).alloc _).alloc _).transNo HX1.out).set (.inl le) _ |>.set (.inl le) _
  · rw [if_neg hc] at e2
    have hr := hfin2 (hsub (by simp only [R128] at *; omega))
    subst hr
    clear hmod hsub hfin1 hfin2 hc hSS hTT hS ha hb hp HK
    go_enter Tryz.func23, Tryz.ntmps23
    go_wp2
    refine bodyPost_ret (v := .agg #[.int .u64 t0, .int .u64 t1]) (by simp [results, Tryz.results23, go_sem]) rfl ⟨rfl, ?_⟩
    exact (((((Ext.refl w No).alloc _).alloc _).alloc _).alloc _).alloc _
end Go.Proofs.YtlmmdldjfpdcfaaGreatDoor

/-
  The shares over fp64: made anew, read from the text.
-/
namespace Go.Proofs.YtlmmdldjfpdcfaaGreatDoor
open Go.RowKit

theorem info44 : (Tryz.prog.info? 44).map (fun i => (i.zero, i.size, i.bytes)) = some (some (.agg #[.int .u64 0]), 1, 8) := by kernel_rfl
theorem info52 : (Tryz.prog.info? 52).map (fun i => (i.zero, i.size, i.bytes)) = some (some (.agg #[.int .u64 0, .int .u64 0]), 2, 16) := by kernel_rfl
theorem of_info {t : TypeId} {z : Value} {s b : Nat} (h : (Tryz.prog.info? t).map (fun i => (i.zero, i.size, i.bytes)) = some (some z, s, b)) : ∃ i, Tryz.prog.info? t = some i ∧ i.zero = some z ∧ i.size = s ∧ i.bytes = b := by
  cases hi : Tryz.prog.info? t with
  | none => rw [hi] at h; simp at h
  | some i =>
    rw [hi] at h
    simp only [Option.map_some, Option.some.injEq, Prod.mk.injEq] at h
    exact ⟨i, rfl, h.1, h.2.1, h.2.2⟩
theorem make64 {n : Nat} (hn : n ≤ 1000) (w : World) : (Instr.makeSlice 42 (.int .u64 (n : Nat)) (.int .u64 (n : Nat))).run Tryz.prog w =
    .ok (.slice (some ⟨w.heap.size, 0, none⟩) n n) (w.alloc (.cells (madeCells #[.int .u64 0] n) 44)) := by
  obtain ⟨i, hi, hz, hs, hb⟩ := of_info info44
  have h := run_make w 42 44 i _ Tryz.underlying42 hi hz .u64 .u64 n n (by omega) (by omega) (by rw [hb]; omega) (by omega)
  simpa [hs, Value.cells] using h

theorem newVec64 {n : Nat} {w : World} (hn : n ≤ 1000) : Calls Tryz.prog 55 #[.int .u64 (n : Nat)] w fun e w' =>
    e = .returned (.slice (some ⟨w.heap.size, 0, none⟩) n n) ∧ w.alloc (.cells (madeCells #[.int .u64 0] n) 44) = w' := by
  have hm := make64 hn
  go_enter Tryz.func55, Tryz.ntmps55
  go_wp2
  go_ret
  exact ⟨rfl, rfl⟩
theorem outLen {pb : Nat} {v : Value} {w : World} (hv : w.cell? ⟨pb, 2, none⟩ = some v) : Calls Tryz.prog 56 #[.pointer (some ⟨pb, 0, none⟩)] w fun e w' =>
    e = .returned v ∧ w = w' := by
  go_enter Tryz.func56, Tryz.ntmps56
  go_wp2
  go_ret
  exact ⟨rfl, rfl⟩
theorem osNew64 {sb pb n : Nat} {u : Value} {w : World} (hn : n ≤ 1000) (hs : w.heap[sb]? = some (.cells #[u] 82 (0, 0))) (hp : w.cell? ⟨pb, 2, none⟩ = some (.int .u64 (n : Nat))) :
    Calls Tryz.prog 29 #[.pointer (some ⟨sb, 0, none⟩), .pointer (some ⟨pb, 0, none⟩)] w fun e w' =>
      e = .returned (.pointer (some ⟨sb, 0, none⟩)) ∧ (w.setCell ⟨sb, 0, none⟩ (.slice (some ⟨w.heap.size, 0, none⟩) n n)).alloc (.cells (madeCells #[.int .u64 0] n) 44) = w' := by
  have ls := lt_of_blk hs
  have hf := frz_alloc ls (blk_frz hs 0) (.cells (madeCells #[.int .u64 0] n) 44)
  have hc := cell_alloc (blk_cell hs 0) (.cells (madeCells #[.int .u64 0] n) 44)
  go_enter Tryz.func29, Tryz.ntmps29
  go_wp2_with (first
    | (go_at_call 56; refine (outLen hp).mono ?_; rintro e w' ⟨rfl, rfl⟩)
    | (go_at_call 55; refine (newVec64 hn).mono ?_; rintro e w' ⟨rfl, rfl⟩))
  go_ret
  exact ⟨rfl, rfl⟩
end Go.Proofs.YtlmmdldjfpdcfaaGreatDoor
