/-
  fp64's vectors: read from the text (Vec.Unmarshal).
-/
import Derived.Test.YtlmmdldjfpdcfaaGreatDoorM04
import Derived.Test.YtlmmdldjfpdcfaaGreatDoorM03
namespace Go.Proofs.YtlmmdldjfpdcfaaGreatDoor
open Go.RowKit

theorem drop_get (l : List Nat) (k i : Nat) : (l.drop k).getD i 0 = l.getD (k + i) 0 := by simp [List.getD]

theorem unmStep64 {w wr w1 : World} {sb vb b o m c k : Nat} {cz : Array Value} {vt : TypeId} {l : List Nat} (h1 : k * 8 ≤ m) (hsh : ¬ m - k * 8 < 8) (h2 : ∀ i, i < k → chunk 8 l i < P64)
    (hp : chunk 8 l k < P64) (hx : Ext w wr (fun q => q = sb ∨ q = vb))
    (hX : Ext wr w1 (fun q => q = sb ∨ q = vb) ∧ w1.heap[sb]? = some (.cells #[.slice (cutA b (o + k * 8) (c - k * 8) 8) (m - k * 8 - 8) (c - k * 8 - 8)] 219 (0, 0)) ∧
      w1.heap[vb]? = some (.cells ((putL cz 0 (vecC enc64 ((chunks 8 k l).map tom64))).setIfInBounds k (.int .u64 (tom64 (leL ((l.drop (k * 8)).take 8)) : Nat))) vt (0, 0))) (hmc : m ≤ c) :
    UnmRel w sb vb b o m c 8 P64 enc64 tom64 cz vt l (k + 1) w1 := by
  obtain ⟨x1, x2, x3⟩ := hX
  refine ⟨by omega, fun i hi => ?_, hx.trans x1 (fun i _ h => h), ⟨cutA b (o + k * 8) (c - k * 8) 8, ?_, fun h => ?_⟩, ?_⟩
  · by_cases e : i = k
    · subst e; exact hp
    · exact h2 i (by omega)
  · rw [show m - (k + 1) * 8 = m - k * 8 - 8 from by omega, show c - (k + 1) * 8 = c - k * 8 - 8 from by omega]
    exact x2
  · unfold cutA
    rw [if_neg (by omega)]
    congr 2
    omega
  · rw [x3, chunks_map_snoc, vecC_snoc, enc64, putL_snoc, vecC_len64, List.length_map, chunks_len, Nat.zero_add]
    rfl

theorem vecUnm64 {sb vb n vc b o m c : Nat} {w : World} {cz : Array Value} {vt : TypeId} (l : List Nat)
    (hs : ∃ a, w.heap[sb]? = some (.cells #[.slice a m c] 219 (0, 0)) ∧ (m ≠ 0 → a = some ⟨b, o, none⟩)) (hv : w.heap[vb]? = some (.cells cz vt (0, 0))) (hne : vb ≠ sb) (hbs : b ≠ sb) (hbv : b ≠ vb)
    (hcz : cz.size = n) (hn : n ≤ 1000) (hmc : m ≤ c) (hc : c ≤ 140737488351232) (hlm : l.length = m) (hlt : ∀ x ∈ l, x < 256)
    (hcell : ∀ i, i < m → w.cell? ⟨b, o + i, none⟩ = some (.int .u8 (l.getD i 0 : Nat))) :
    Calls Tryz.prog 148 #[.slice (some ⟨vb, 0, none⟩) n vc, .pointer (some ⟨sb, 0, none⟩)] w fun e w' =>
      e = .returned (.bool (okN 8 P64 n l)) ∧ (okN 8 P64 n l = false → Ext w w' (fun q => q = sb ∨ q = vb)) ∧
        (okN 8 P64 n l = true → UnmRel w sb vb b o m c 8 P64 enc64 tom64 cz vt l n w') := by
  have H0 : Hid (UnmRel w sb vb b o m c 8 P64 enc64 tom64 cz vt l 0 w) := by
    refine ⟨by omega, fun i hi => by omega, Ext.refl _ _, ?_, by simpa [chunks, vecC, putL] using hv⟩
    simpa using hs
  clear hs hv
  have Hl := Lib.hid hlm; clear hlm
  have Hlt := Lib.hid hlt; clear hlt
  have Hcell := Lib.hid hcell; clear hcell
  have Hcz := Lib.hid hcz; clear hcz
  go_enter Tryz.func148, Tryz.ntmps148
  go_wp2
  go_loopw [8] (fun i wr => ∃ k : Nat, k ≤ n ∧ i = .int .i64 k ∧ Hid (UnmRel w sb vb b o m c 8 P64 enc64 tom64 cz vt l k wr)) (fun i _ => n - (intOf i).toNat)
  case atStart => exact ⟨0, by omega, rfl, H0⟩
  case round =>
    obtain ⟨k, hk, rfl, hR⟩ := hrel
    by_cases hkn : k = n
    · subst hkn
      go_wp2
      go_ret
      have hok : okN 8 P64 k l = true := by
        obtain ⟨h1, h2, -⟩ := hR.out
        exact (okN_iff _ _ _ _).2 ⟨by rw [Hl.out]; exact h1, h2⟩
      exact ⟨by rw [hok]; rfl, fun h => by rw [hok] at h; exact Bool.noConfusion h, fun _ => hR.out⟩
    · have hlk : k < n := by omega
      obtain ⟨h1, h2, hx, ⟨a, hs, ha⟩, hv⟩ := hR.out
      have Hs := Lib.hid hs; clear hs
      have Hv := Lib.hid hv; clear hv
      have H2 := Lib.hid h2; clear h2
      by_cases hsh : m - k * 8 < 8
      · have hok : okN 8 P64 n l = false := okN_false_short hlk (by rw [Hl.out]; exact hsh)
        have Hok := Lib.hid hok; clear hok
        go_wp2_with (go_at_call 150; refine (unm64_short Hs.out hsh).mono ?_; rintro e w1 ⟨rfl, hx1⟩)
        go_ret
        exact ⟨by rw [Hok.out]; rfl, fun _ => hx.transNo hx1, fun h => by rw [Hok.out] at h; exact Bool.noConfusion h⟩
      · have ha' := ha (by omega)
        subst ha'
        have hd : (l.drop (k * 8)).length = m - k * 8 := by rw [List.length_drop, Hl.out]
        have hdl : ∀ x ∈ l.drop (k * 8), x < 256 := fun x hx => Hlt.out x (List.mem_of_mem_drop hx)
        have hdc : ∀ i, i < m - k * 8 → wr.cell? ⟨b, o + k * 8 + i, none⟩ = some (.int .u8 ((l.drop (k * 8)).getD i 0 : Nat)) := by
          intro i hi
          rw [drop_get, Nat.add_assoc]
          exact hx.cell (Hcell.out (k * 8 + i) (by omega)) (by simp; exact ⟨hbs, hbv⟩)
        have hzo : k < (putL cz 0 (vecC enc64 ((chunks 8 k l).map tom64))).size := by rw [putL_size, Hcz.out]; exact hlk
        have Hd := Lib.hid hd; clear hd
        have Hdl := Lib.hid hdl; clear hdl
        have Hdc := Lib.hid hdc; clear hdc
        have Hzo := Lib.hid hzo; clear hzo
        by_cases hp : chunk 8 l k < P64
        · have hdp : decide (leL ((l.drop (k * 8)).take 8) < P64) = true := decide_eq_true hp
          have Hdp := Lib.hid hdp; clear hdp
          go_wp2_with (go_at_call 150; refine (unm64_some (l.drop (k * 8)) Hs.out Hv.out hne Hzo.out (by omega) (by omega) (by omega) Hd.out Hdl.out Hdc.out).mono ?_; rintro e w1 ⟨he, -, hx1⟩; rw [Hdp.out] at he; subst he; have HX1 := Lib.hid (hx1 hp); clear hx1)
          exact ⟨⟨k + 1, by omega, by go_num, unmStep64 h1 hsh H2.out hp hx HX1.out hmc⟩, by simp [intOf]; omega⟩
        · have hok : okN 8 P64 n l = false := okN_false_big hlk hp
          have Hok := Lib.hid hok; clear hok
          have hdp : decide (leL ((l.drop (k * 8)).take 8) < P64) = false := decide_eq_false hp
          have Hdp := Lib.hid hdp; clear hdp
          go_wp2_with (go_at_call 150; refine (unm64_some (l.drop (k * 8)) Hs.out Hv.out hne Hzo.out (by omega) (by omega) (by omega) Hd.out Hdl.out Hdc.out).mono ?_; rintro e w1 ⟨he, hx1, -⟩; rw [Hdp.out] at he; subst he; have HX1 := Lib.hid (hx1 hp); clear hx1)
          go_ret
          exact ⟨by rw [Hok.out]; rfl, fun _ => hx.trans HX1.out (fun i _ h => .inl h), fun h => by rw [Hok.out] at h; exact Bool.noConfusion h⟩
end Go.Proofs.YtlmmdldjfpdcfaaGreatDoor

/-
  fp128's numbers: one read from the text (Fp.Unmarshal).
-/
namespace Go.Proofs.YtlmmdldjfpdcfaaGreatDoor
open Go.RowKit

theorem unm128_short {sb zb zo : Nat} {w : World} {a : Option Addr} {m c : Nat} (hs : w.heap[sb]? = some (.cells #[.slice a m c] 219 (0, 0))) (hlt : m < 16) :
    Calls Tryz.prog 164 #[.pointer (some ⟨zb, zo, none⟩), .pointer (some ⟨sb, 0, none⟩)] w fun e w' => e = .returned (.bool false) ∧ Ext w w' No := by
  have Hs := Lib.hid hs; clear hs
  go_enter Tryz.func164, Tryz.ntmps164
  go_wp2_with (go_at_call 154; refine (copy_short (blk_alloc Hs.out _) hlt).mono ?_; rintro e w' ⟨rfl, rfl⟩)
  go_ret
  exact ⟨rfl, (Ext.refl w No).alloc _⟩

theorem set2_get0 (cz : Array Value) (zo : Nat) (a b : Value) (h : zo + 1 < cz.size) : ((cz.setIfInBounds zo a).setIfInBounds (zo + 1) b)[zo]? = some a := by
  rw [Array.getElem?_setIfInBounds_ne (by omega), Array.getElem?_setIfInBounds_self_of_lt (by omega)]
theorem set2_get1 (cz : Array Value) (zo : Nat) (a b : Value) (h : zo + 1 < cz.size) : ((cz.setIfInBounds zo a).setIfInBounds (zo + 1) b)[zo + 1]? = some b := by
  rw [Array.getElem?_setIfInBounds_self_of_lt (by simpa using h)]
theorem set2_set2 (cz : Array Value) (zo : Nat) (a b a' b' : Value) :
    (((cz.setIfInBounds zo a).setIfInBounds (zo + 1) b).setIfInBounds zo a').setIfInBounds (zo + 1) b' = (cz.setIfInBounds zo a').setIfInBounds (zo + 1) b' := by
  rw [Array.setIfInBounds_comm b a' (by omega), Array.setIfInBounds_setIfInBounds, Array.setIfInBounds_setIfInBounds]

theorem unm128_some {sb zb zo : Nat} {w : World} {b o m c : Nat} {cz : Array Value} {zt : TypeId} (l : List Nat)
    (hs : w.heap[sb]? = some (.cells #[.slice (some ⟨b, o, none⟩) m c] 219 (0, 0))) (hz : w.heap[zb]? = some (.cells cz zt (0, 0))) (hne : zb ≠ sb) (hzo : zo + 1 < cz.size)
    (hn : 16 ≤ m) (hmc : m ≤ c) (hc : c ≤ 140737488351232) (hlm : l.length = m) (hlt : ∀ x ∈ l, x < 256)
    (hcell : ∀ i, i < m → w.cell? ⟨b, o + i, none⟩ = some (.int .u8 (l.getD i 0 : Nat))) :
    Calls Tryz.prog 164 #[.pointer (some ⟨zb, zo, none⟩), .pointer (some ⟨sb, 0, none⟩)] w fun e w' =>
      e = .returned (.bool (decide (leL (l.take 16) < P128))) ∧
        (¬ leL (l.take 16) < P128 → Ext w w' (fun k => k = sb)) ∧
        (leL (l.take 16) < P128 → Ext w w' (fun k => k = sb ∨ k = zb) ∧ w'.heap[sb]? = some (.cells #[.slice (cutA b o c 16) (m - 16) (c - 16)] 219 (0, 0)) ∧
          w'.heap[zb]? = some (.cells ((cz.setIfInBounds zo (.int .u64 (lw (tom128 (leL (l.take 16)))))).setIfInBounds (zo + 1) (.int .u64 (hw (tom128 (leL (l.take 16)))))) zt (0, 0))) := by
  have lz := lt_of_blk hz
  have ls := lt_of_blk hs
  have Hs := Lib.hid hs; clear hs
  have Hz := Lib.hid hz; clear hz
  have Hl := Lib.hid hlm; clear hlm
  have Hlt := Lib.hid hlt; clear hlt
  have Hcell := Lib.hid hcell; clear hcell
  have Hzo := Lib.hid hzo; clear hzo
  have e8 : (l.take 16).length = 16 := by rw [List.length_take, Hl.out]; omega
  have E8 := Lib.hid e8; clear e8
  have t8 : ∀ x ∈ l.take 16, x < 256 := fun x hx => Hlt.out x (List.mem_of_mem_take hx)
  have T8 := Lib.hid t8; clear t8
  generalize hv : leL (l.take 16) = v at *
  have Hv := Lib.hid hv; clear hv
  obtain ⟨uz, huz⟩ : ∃ u, cz[zo]? = some u := ⟨_, Array.getElem?_eq_getElem (by have := Hzo.out; omega)⟩
  obtain ⟨vz, hvz⟩ : ∃ u, cz[zo + 1]? = some u := ⟨_, Array.getElem?_eq_getElem Hzo.out⟩
  have Huz := Lib.hid huz; clear huz
  have Hvz := Lib.hid hvz; clear hvz
  have nz : ¬ (zb = w.heap.size ∨ zb = sb) := by omega
  have ns : ¬ (sb = zb) := fun e => hne e.symm
  by_cases hp : v < P128
  · have hd : decide (v < P128) = true := decide_eq_true hp
    go_enter Tryz.func164, Tryz.ntmps164
    go_wp2_with (first
      | (go_at_call 154; refine (copy_some (n := 16) l (blk_alloc Hs.out _) (blk_new _ _) (Nat.ne_of_lt ls) rfl (by decide) hn hmc hc Hl.out (fun i hi => cell_alloc (Hcell.out i hi) _)).mono ?_; rintro e w1 ⟨rfl, hx1, hb1, hs1⟩; have HB1 := Lib.hid hb1; clear hb1; have HS1 := Lib.hid hs1; clear hs1)
      | (go_at_call 166; refine (inRange128 (l.take 16) E8.out T8.out HB1.out).mono ?_; rintro e w2 ⟨rfl, hx2⟩; rw [Hv.out]; have hz2 := hx2.blkNo (hx1.blk (blk_alloc Hz.out _) nz); have lz2 := lt_of_blk hz2; have kz : ∀ o, (w2.alloc o).cell? ⟨zb, zo, none⟩ = some uz := fun o => cell_alloc ((blk_cell hz2 zo).trans Huz.out) o; have kf : ∀ o, (w2.alloc o).frozen? ⟨zb, zo, none⟩ = false := fun o => frz_alloc lz2 (blk_frz hz2 zo) o; have kz1 : ∀ u o, ((w2.setCell ⟨zb, zo, none⟩ u).alloc o).cell? ⟨zb, zo + 1, none⟩ = some vz := fun u o => cell_alloc ((blk_cell (blk_set hz2 zo u) (zo + 1)).trans ((Array.getElem?_setIfInBounds_ne (by omega)).trans Hvz.out)) o; have kf1 : ∀ u o, ((w2.setCell ⟨zb, zo, none⟩ u).alloc o).frozen? ⟨zb, zo + 1, none⟩ = false := fun u o => frz_alloc (by simpa using lz2) (blk_frz (blk_set hz2 zo u) (zo + 1)) o; have hz4 : ∀ u v o, (((w2.setCell ⟨zb, zo, none⟩ u).setCell ⟨zb, zo + 1, none⟩ v).alloc o).heap[zb]? = some (.cells ((cz.setIfInBounds zo u).setIfInBounds (zo + 1) v) zt (0, 0)) := fun u v o => blk_alloc (blk_set (blk_set hz2 zo u) (zo + 1) v) o; have HZ4 := Lib.hid hz4; clear hz4 hz2)
      | (go_at_call 100; refine (toMont128 hp ((blk_cell (HZ4.out _ _ _) zo).trans (set2_get0 _ _ _ _ Hzo.out)) (blk_frz (HZ4.out _ _ _) _) ((blk_cell (HZ4.out _ _ _) (zo + 1)).trans (set2_get1 _ _ _ _ Hzo.out)) (blk_frz (HZ4.out _ _ _) _)).mono ?_; rintro e w3 ⟨rfl, hx3⟩))
    go_ret
    refine ⟨by rw [hd]; rfl, fun h => (h hp).elim, fun _ => ⟨?_, ?_, ?_⟩⟩
    · refine Ext.transNo ?_ hx3
      have e1 : Ext w w1 (fun k => k = sb ∨ k = zb) := ((Ext.refl w _).alloc _).trans hx1 (fun i hi h => by rcases h with rfl | rfl <;> first | omega | exact .inl rfl)
      exact (((((e1.transNo hx2).set (.inr (.inr rfl)) _).set (.inr (.inr rfl)) _).alloc _).set (.inr (.inr rfl)) _).set (.inr (.inr rfl)) _
    · exact hx3.blkNo (blk_set_ne (blk_set_ne (blk_alloc (blk_set_ne (blk_set_ne (hx2.blkNo HS1.out) ns _) ns _) _) ns _) ns _)
    · have h := hx3.blkNo (blk_set (blk_set (HZ4.out _ _ _) zo (.int .u64 (lw (tom128 v)))) (zo + 1) (.int .u64 (hw (tom128 v))))
      rw [set2_set2] at h
      exact h
  · have hd : decide (v < P128) = false := decide_eq_false hp
    go_enter Tryz.func164, Tryz.ntmps164
    go_wp2_with (first
      | (go_at_call 154; refine (copy_some (n := 16) l (blk_alloc Hs.out _) (blk_new _ _) (Nat.ne_of_lt ls) rfl (by decide) hn hmc hc Hl.out (fun i hi => cell_alloc (Hcell.out i hi) _)).mono ?_; rintro e w1 ⟨rfl, hx1, hb1, hs1⟩; have HB1 := Lib.hid hb1; clear hb1; clear hs1)
      | (go_at_call 166; refine (inRange128 (l.take 16) E8.out T8.out HB1.out).mono ?_; rintro e w2 ⟨rfl, hx2⟩; rw [Hv.out]))
    go_ret
    refine ⟨by rw [hd]; rfl, fun _ => ?_, fun h => (hp h).elim⟩
    have e1 : Ext w w1 (fun k => k = sb) := ((Ext.refl w _).alloc _).trans hx1 (fun i hi h => by rcases h with rfl | rfl <;> first | omega | exact rfl)
    exact (e1.transNo hx2).alloc _
end Go.Proofs.YtlmmdldjfpdcfaaGreatDoor

/-
  fp128's numbers: one written to the builder (Fp.Marshal).
-/
namespace Go.Proofs.YtlmmdldjfpdcfaaGreatDoor
open Go.RowKit

theorem bytesL_add (m n v : Nat) : bytesL (m + n) v = bytesL m v ++ bytesL n (v / 256 ^ m) := by
  induction m generalizing v with
  | zero => simp [bytesL]
  | succ m ih => rw [show m + 1 + n = (m + n) + 1 from by omega, bytesL, bytesL, ih, List.cons_append, Nat.div_div_eq_div_mul, Nat.pow_succ, Nat.mul_comm 256]
theorem bytesL_mod (m v : Nat) : bytesL m (v % 256 ^ m) = bytesL m v := by
  induction m generalizing v with
  | zero => rfl
  | succ m ih =>
    have h1 : v % 256 ^ (m + 1) % 256 = v % 256 := Nat.mod_mod_of_dvd v (by rw [Nat.pow_succ]; exact Nat.dvd_mul_left _ _)
    have h2 : v % 256 ^ (m + 1) / 256 = v / 256 % 256 ^ m := by rw [Nat.pow_succ, Nat.mul_comm, Nat.mod_mul_right_div_self]
    rw [bytesL, bytesL, h1, h2, ih]
abbrev Z16 : Array Value := #[.int .u8 0, .int .u8 0, .int .u8 0, .int .u8 0, .int .u8 0, .int .u8 0, .int .u8 0, .int .u8 0, .int .u8 0, .int .u8 0, .int .u8 0, .int .u8 0, .int .u8 0, .int .u8 0, .int .u8 0, .int .u8 0]
theorem put128 (v : Nat) : putL (putL Z16 0 (u8s (bytesL 8 (v % 18446744073709551616)))) 8 (u8s (bytesL 8 (v / 18446744073709551616))) = (u8s (bytesL 16 v)).toArray := by
  have e := bytesL_add 8 8 v
  have e2 := bytesL_mod 8 v
  rw [show (256 : Nat) ^ 8 = 18446744073709551616 from by decide] at e e2
  rw [e2, e, ← putL_all Z16 (u8s _) (by simp [u8s_len, bytesL_len])]
  rw [show u8s (bytesL 8 v ++ bytesL 8 (v / 18446744073709551616)) = u8s (bytesL 8 v) ++ u8s (bytesL 8 (v / 18446744073709551616)) from by simp [u8s], putL_append, u8s_len, bytesL_len]
def marS (v : Nat) : Nat → Array Value
  | 0 => Z16
  | 1 => putL Z16 0 (u8s (bytesL 8 (v % 18446744073709551616)))
  | _ => (u8s (bytesL 16 v)).toArray

theorem marshal128 {base zb zo v bb g cap : Nat} {done : List Nat} {w : World} (hv : v < P128) (hz : w.cell? ⟨zb, zo, none⟩ = some (.int .u64 (lw v))) (hz' : w.cell? ⟨zb, zo + 1, none⟩ = some (.int .u64 (hw v)))
    (hB : Bld base w bb g cap done) (hne : bb ≠ g) (hroom : done.length + 16 ≤ cap) (hcap : cap ≤ 100000) :
    Calls Tryz.prog 163 #[.pointer (some ⟨zb, zo, none⟩), .pointer (some ⟨bb, 0, none⟩)] w fun e w' =>
      e = .returned .nilIface ∧ Ext w w' (fun k => k = bb ∨ k = g) ∧ Bld base w' bb g cap (done ++ bytesL 16 (val128 v)) := by
  have lb := lt_of_blk hB.1
  have lg := hB.lt
  have HB := Lib.hid hB; clear hB
  have hi0 : ∀ w, (Instr.index 52 (.agg #[.int .u64 (lw (val128 v)), .int .u64 (hw (val128 v))]) (.int .i64 0)).run Tryz.prog w = .ok (.int .u64 (lw (val128 v))) w := fun _ => by kernel_rfl
  have hi1 : ∀ w, (Instr.index 52 (.agg #[.int .u64 (lw (val128 v)), .int .u64 (hw (val128 v))]) (.int .i64 1)).run Tryz.prog w = .ok (.int .u64 (hw (val128 v))) w := fun _ => by kernel_rfl
  go_enter Tryz.func163, Tryz.ntmps163
  go_wp2_with (go_at_call 165; refine (fromMont128 hv (cell_alloc hz _) (cell_alloc hz' _)).mono ?_; rintro e w1 ⟨rfl, hx1⟩)
  go_loopw [10] (fun i wr => ∃ k : Nat, k ≤ 2 ∧ i = .int .i64 k ∧ Ext w1 wr (fun q => q = w.heap.size) ∧ Hid (wr.heap[w.heap.size]? = some (.cells (marS (val128 v) k) 271 (0, 0)))) (fun i _ => 2 - (intOf i).toNat)
  case atStart => exact ⟨0, by omega, rfl, Ext.refl _ _, hx1.blkNo (blk_new _ _)⟩
  case round =>
    obtain ⟨k, hk, rfl, hx, hX⟩ := hrel
    by_cases h1 : k = 2
    · subst h1
      have hl : (bytesL 16 (val128 v)).length = 16 := bytesL_len _ _
      have hX' : wr.heap[w.heap.size]? = some (.cells (u8s (bytesL 16 (val128 v))).toArray 271 (0, 0)) := hX.out
      have hcl : ∀ i, i < 16 → wr.cell? ⟨w.heap.size, 0 + i, none⟩ = some (.int .u8 ((bytesL 16 (val128 v)).getD i 0 : Nat)) := by
        intro i hi
        rw [Nat.zero_add, blk_cell hX' i, u8s_cell _ _ (by omega)]
      have hB' : Bld base wr bb g cap done := ((HB.out.ext ((Ext.refl w No).alloc _) (fun f => f) (fun f => f)).ext hx1 (fun f => f) (fun f => f)).ext hx (Nat.ne_of_lt lb) (Nat.ne_of_lt lg)
      clear hX'
      have HL := Lib.hid hl; clear hl
      have HCL := Lib.hid hcl; clear hcl
      have HB' := Lib.hid hB'; clear hB'
      go_wp2_with (go_at_call 153; refine (add_bytes' HB'.out hne (bytesL 16 (val128 v)) HL.out HCL.out hroom hcap).mono ?_; rintro e w2 ⟨rfl, hx2, hB2⟩)
      go_ret
      have e1 : Ext w wr (fun k => k = bb ∨ k = g) := (((Ext.refl w _).alloc _).transNo hx1).trans hx (fun i hi h => absurd h (Nat.ne_of_lt hi))
      exact ⟨rfl, e1.trans hx2 (fun _ _ h => h), hB2⟩
    · by_cases h0 : k = 0
      · subst h0
        have HX0 : Hid (wr.heap[w.heap.size]? = some (.cells Z16 271 (0, 0))) := hX
        go_wp2_with (go_at_call 152; refine (put64 (n := 16) (o := 0) (v := val128 v % 18446744073709551616) (by omega) (by omega) HX0.out (by decide)).mono ?_; rintro e w2 ⟨rfl, hx2, hb2⟩; have HB2 := Lib.hid hb2; clear hb2)
        exact ⟨⟨1, by omega, rfl, hx.trans hx2 (fun _ _ h => h), HB2⟩, by simp [intOf]⟩
      · obtain rfl : k = 1 := by omega
        have HX0 : Hid (wr.heap[w.heap.size]? = some (.cells (putL Z16 0 (u8s (bytesL 8 (val128 v % 18446744073709551616)))) 271 (0, 0))) := hX
        go_wp2_with (go_at_call 152; refine (put64 (n := 8) (o := 8) (v := val128 v / 18446744073709551616) (by omega) (by omega) HX0.out (by rw [putL_size]; decide)).mono ?_; rintro e w2 ⟨rfl, hx2, hb2⟩; rw [put128] at hb2; have HB2 := Lib.hid hb2; clear hb2)
        exact ⟨⟨2, by omega, rfl, hx.trans hx2 (fun _ _ h => h), HB2⟩, by simp [intOf]⟩
end Go.Proofs.YtlmmdldjfpdcfaaGreatDoor

/-
  fp128's vectors: read from the text (Vec.Unmarshal).
-/
namespace Go.Proofs.YtlmmdldjfpdcfaaGreatDoor
open Go.RowKit

def enc128 (v : Nat) : List Value := [.int .u64 (lw v), .int .u64 (hw v)]
theorem vecC_len128 (vs : List Nat) : (vecC enc128 vs).length = 2 * vs.length := by
  induction vs with
  | nil => rfl
  | cons v vs ih => rw [show vecC enc128 (v :: vs) = enc128 v ++ vecC enc128 vs from rfl, List.length_append, ih, List.length_cons, Nat.mul_add, Nat.add_comm]; rfl
theorem putL_enc128 (cs : Array Value) (o v : Nat) (l : List Value) : putL cs o (l ++ enc128 v) = ((putL cs o l).setIfInBounds (o + l.length) (.int .u64 (lw v))).setIfInBounds (o + l.length + 1) (.int .u64 (hw v)) := by
  rw [putL_append]; rfl
theorem vecC128_get0 (vs : List Nat) (k : Nat) (h : k < vs.length) : (vecC enc128 vs)[k * 2]? = some (.int .u64 (lw (vs.getD k 0))) := by
  induction vs generalizing k with
  | nil => simp at h
  | cons v vs ih =>
    cases k with
    | zero => rfl
    | succ k => rw [show (k + 1) * 2 = k * 2 + 2 from by omega]; exact ih k (by simpa using h)
theorem vecC128_get1 (vs : List Nat) (k : Nat) (h : k < vs.length) : (vecC enc128 vs)[k * 2 + 1]? = some (.int .u64 (hw (vs.getD k 0))) := by
  induction vs generalizing k with
  | nil => simp at h
  | cons v vs ih =>
    cases k with
    | zero => rfl
    | succ k => rw [show (k + 1) * 2 + 1 = k * 2 + 1 + 2 from by omega]; exact ih k (by simpa using h)

theorem unmStep128 {w wr w1 : World} {sb vb b o m c k : Nat} {cz : Array Value} {vt : TypeId} {l : List Nat} (h1 : k * 16 ≤ m) (hsh : ¬ m - k * 16 < 16) (h2 : ∀ i, i < k → chunk 16 l i < P128)
    (hp : chunk 16 l k < P128) (hx : Ext w wr (fun q => q = sb ∨ q = vb))
    (hX : Ext wr w1 (fun q => q = sb ∨ q = vb) ∧ w1.heap[sb]? = some (.cells #[.slice (cutA b (o + k * 16) (c - k * 16) 16) (m - k * 16 - 16) (c - k * 16 - 16)] 219 (0, 0)) ∧
      w1.heap[vb]? = some (.cells (((putL cz 0 (vecC enc128 ((chunks 16 k l).map tom128))).setIfInBounds (k * 2) (.int .u64 (lw (tom128 (leL ((l.drop (k * 16)).take 16)))))).setIfInBounds (k * 2 + 1) (.int .u64 (hw (tom128 (leL ((l.drop (k * 16)).take 16)))))) vt (0, 0))) (hmc : m ≤ c) :
    UnmRel w sb vb b o m c 16 P128 enc128 tom128 cz vt l (k + 1) w1 := by
  obtain ⟨x1, x2, x3⟩ := hX
  refine ⟨by omega, fun i hi => ?_, hx.trans x1 (fun i _ h => h), ⟨cutA b (o + k * 16) (c - k * 16) 16, ?_, fun h => ?_⟩, ?_⟩
  · by_cases e : i = k
    · subst e; exact hp
    · exact h2 i (by omega)
  · rw [show m - (k + 1) * 16 = m - k * 16 - 16 from by omega, show c - (k + 1) * 16 = c - k * 16 - 16 from by omega]
    exact x2
  · unfold cutA
    rw [if_neg (by omega)]
    congr 2
    omega
  · rw [x3, chunks_map_snoc, vecC_snoc, putL_enc128, vecC_len128, List.length_map, chunks_len, Nat.zero_add, Nat.mul_comm 2 k]
    rfl

theorem vecUnm128 {sb vb n vc b o m c : Nat} {w : World} {cz : Array Value} {vt : TypeId} (l : List Nat)
    (hs : ∃ a, w.heap[sb]? = some (.cells #[.slice a m c] 219 (0, 0)) ∧ (m ≠ 0 → a = some ⟨b, o, none⟩)) (hv : w.heap[vb]? = some (.cells cz vt (0, 0))) (hne : vb ≠ sb) (hbs : b ≠ sb) (hbv : b ≠ vb)
    (hcz : cz.size = 2 * n) (hn : n ≤ 1000) (hmc : m ≤ c) (hc : c ≤ 140737488351232) (hlm : l.length = m) (hlt : ∀ x ∈ l, x < 256)
    (hcell : ∀ i, i < m → w.cell? ⟨b, o + i, none⟩ = some (.int .u8 (l.getD i 0 : Nat))) :
    Calls Tryz.prog 162 #[.slice (some ⟨vb, 0, none⟩) n vc, .pointer (some ⟨sb, 0, none⟩)] w fun e w' =>
      e = .returned (.bool (okN 16 P128 n l)) ∧ (okN 16 P128 n l = false → Ext w w' (fun q => q = sb ∨ q = vb)) ∧
        (okN 16 P128 n l = true → UnmRel w sb vb b o m c 16 P128 enc128 tom128 cz vt l n w') := by
  have H0 : Hid (UnmRel w sb vb b o m c 16 P128 enc128 tom128 cz vt l 0 w) := by
    refine ⟨by omega, fun i hi => by omega, Ext.refl _ _, ?_, by simpa [chunks, vecC, putL] using hv⟩
    simpa using hs
  clear hs hv
  have Hl := Lib.hid hlm; clear hlm
  have Hlt := Lib.hid hlt; clear hlt
  have Hcell := Lib.hid hcell; clear hcell
  have Hcz := Lib.hid hcz; clear hcz
  go_enter Tryz.func162, Tryz.ntmps162
  go_wp2
  go_loopw [8] (fun i wr => ∃ k : Nat, k ≤ n ∧ i = .int .i64 k ∧ Hid (UnmRel w sb vb b o m c 16 P128 enc128 tom128 cz vt l k wr)) (fun i _ => n - (intOf i).toNat)
  case atStart => exact ⟨0, by omega, rfl, H0⟩
  case round =>
    obtain ⟨k, hk, rfl, hR⟩ := hrel
    by_cases hkn : k = n
    · subst hkn
      go_wp2
      go_ret
      have hok : okN 16 P128 k l = true := by
        obtain ⟨h1, h2, -⟩ := hR.out
        exact (okN_iff _ _ _ _).2 ⟨by rw [Hl.out]; exact h1, h2⟩
      exact ⟨by rw [hok]; rfl, fun h => by rw [hok] at h; exact Bool.noConfusion h, fun _ => hR.out⟩
    · have hlk : k < n := by omega
      obtain ⟨h1, h2, hx, ⟨a, hs, ha⟩, hv⟩ := hR.out
      have Hs := Lib.hid hs; clear hs
      have Hv := Lib.hid hv; clear hv
      have H2 := Lib.hid h2; clear h2
      by_cases hsh : m - k * 16 < 16
      · have hok : okN 16 P128 n l = false := okN_false_short hlk (by rw [Hl.out]; exact hsh)
        have Hok := Lib.hid hok; clear hok
        go_wp2_with (go_at_call 164; refine (unm128_short Hs.out hsh).mono ?_; rintro e w1 ⟨rfl, hx1⟩)
        go_ret
        exact ⟨by rw [Hok.out]; rfl, fun _ => hx.transNo hx1, fun h => by rw [Hok.out] at h; exact Bool.noConfusion h⟩
      · have ha' := ha (by omega)
        subst ha'
        have hd : (l.drop (k * 16)).length = m - k * 16 := by rw [List.length_drop, Hl.out]
        have hdl : ∀ x ∈ l.drop (k * 16), x < 256 := fun x hx => Hlt.out x (List.mem_of_mem_drop hx)
        have hdc : ∀ i, i < m - k * 16 → wr.cell? ⟨b, o + k * 16 + i, none⟩ = some (.int .u8 ((l.drop (k * 16)).getD i 0 : Nat)) := by
          intro i hi
          rw [drop_get, Nat.add_assoc]
          exact hx.cell (Hcell.out (k * 16 + i) (by omega)) (by simp; exact ⟨hbs, hbv⟩)
        have hzo : k * 2 + 1 < (putL cz 0 (vecC enc128 ((chunks 16 k l).map tom128))).size := by rw [putL_size, Hcz.out]; omega
        have Hd := Lib.hid hd; clear hd
        have Hdl := Lib.hid hdl; clear hdl
        have Hdc := Lib.hid hdc; clear hdc
        have Hzo := Lib.hid hzo; clear hzo
        by_cases hp : chunk 16 l k < P128
        · have hdp : decide (leL ((l.drop (k * 16)).take 16) < P128) = true := decide_eq_true hp
          have Hdp := Lib.hid hdp; clear hdp
          go_wp2_with (go_at_call 164; refine (unm128_some (l.drop (k * 16)) Hs.out Hv.out hne Hzo.out (by omega) (by omega) (by omega) Hd.out Hdl.out Hdc.out).mono ?_; rintro e w1 ⟨he, -, hx1⟩; rw [Hdp.out] at he; subst he; have HX1 := Lib.hid (hx1 hp); clear hx1)
          exact ⟨⟨k + 1, by omega, by go_num, unmStep128 h1 hsh H2.out hp hx HX1.out hmc⟩, by simp [intOf]; omega⟩
        · have hok : okN 16 P128 n l = false := okN_false_big hlk hp
          have Hok := Lib.hid hok; clear hok
          have hdp : decide (leL ((l.drop (k * 16)).take 16) < P128) = false := decide_eq_false hp
          have Hdp := Lib.hid hdp; clear hdp
          go_wp2_with (go_at_call 164; refine (unm128_some (l.drop (k * 16)) Hs.out Hv.out hne Hzo.out (by omega) (by omega) (by omega) Hd.out Hdl.out Hdc.out).mono ?_; rintro e w1 ⟨he, hx1, -⟩; rw [Hdp.out] at he; subst he; have HX1 := Lib.hid (hx1 hp); clear hx1)
          go_ret
          exact ⟨by rw [Hok.out]; rfl, fun _ => hx.trans HX1.out (fun i _ h => .inl h), fun h => by rw [Hok.out] at h; exact Bool.noConfusion h⟩
end Go.Proofs.YtlmmdldjfpdcfaaGreatDoor
