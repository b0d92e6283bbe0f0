/-
  The shares over fp64: an aggregate as bytes (MarshalBinary).
-/
import Derived.Test.YtlmmdldjfpdcfaaGreatDoorM07
import Derived.Lib.SliceRun
namespace Go.Proofs.YtlmmdldjfpdcfaaGreatDoor
open Go.RowKit

theorem aggBin64 {gb vb n vc : Nat} {vs : List Nat} {w : World} {vt : TypeId} (hg : w.cell? ⟨gb, 0, none⟩ = some (.slice (some ⟨vb, 0, none⟩) n vc)) (hlen : vs.length = n) (hlt : ∀ i, i < n → vs.getD i 0 < P64) (hv : w.heap[vb]? = some (.cells (vecC enc64 vs).toArray vt (0, 0))) (hn : n ≤ 1000) :
    Calls Tryz.prog 31 #[.pointer (some ⟨gb, 0, none⟩)] w fun e w' =>
      e = .returned (.tuple #[.slice (some ⟨w.heap.size, 0, none⟩) (n * 8) (n * 8), .nilIface]) ∧ Ext w w' No ∧
        w'.ownsRow w.heap.size 5 1 (.slice (some ⟨w.heap.size, 0, none⟩) (n * 8) (n * 8)) (n * 8) (u8s (flat out64 vs)) := by
  have hm : ∃ cap, cap = n * 8 := ⟨_, rfl⟩
  obtain ⟨cap, hcap⟩ := hm
  have K := marLen64 (vc := vc) hg hlen hlt hv hn hcap
  have hfl : (flat out64 vs).length = cap := by rw [flat_len _ 8 out64_len, hlen, hcap]
  have S := size64 (a := some ⟨vb, 0, none⟩) (n := n) (c := vc) (w := w) hn
  rw [← hcap] at S ⊢
  have HF := Lib.hid hfl
  clear hlt hv hcap hlen hfl
  go_enter Tryz.func31, Tryz.ntmps31
  go_wp2_with (first
    | (go_at_call 147; refine S.mono ?_; rintro e w' ⟨rfl, rfl⟩)
    | (go_at_call 58; refine K.mono ?_; rintro e w2 ⟨bb, rfl, h1, h2⟩; have H2 := Lib.hid h2; clear h2))
  go_ret2
  have h := H2.out.2
  rw [HF.out] at h
  exact ⟨rfl, h1, h⟩
end Go.Proofs.YtlmmdldjfpdcfaaGreatDoor

/-
  The shares over fp128: made anew, read from the text.
-/
namespace Go.Proofs.YtlmmdldjfpdcfaaGreatDoor
open Go.RowKit

theorem make128 {n : Nat} (hn : n ≤ 1000) (w : World) : (Instr.makeSlice 50 (.int .u64 (n : Nat)) (.int .u64 (n : Nat))).run Tryz.prog w =
    .ok (.slice (some ⟨w.heap.size, 0, none⟩) n n) (w.alloc (.cells (madeCells #[.int .u64 0, .int .u64 0] (n * 2)) 52)) := by
  obtain ⟨i, hi, hz, hs, hb⟩ := of_info info52
  have h := run_make w 50 52 i _ Tryz.underlying50 hi hz .u64 .u64 n n (by omega) (by omega) (by rw [hb]; omega) (by omega)
  simpa [hs, Value.cells] using h

theorem newVec128 {n : Nat} {w : World} (hn : n ≤ 1000) : Calls Tryz.prog 65 #[.int .u64 (n : Nat)] w fun e w' =>
    e = .returned (.slice (some ⟨w.heap.size, 0, none⟩) n n) ∧ w.alloc (.cells (madeCells #[.int .u64 0, .int .u64 0] (n * 2)) 52) = w' := by
  have hm := make128 hn
  go_enter Tryz.func65, Tryz.ntmps65
  go_wp2
  go_ret
  exact ⟨rfl, rfl⟩
theorem osNew128 {sb pb n : Nat} {u : Value} {w : World} (hn : n ≤ 1000) (hs : w.heap[sb]? = some (.cells #[u] 103 (0, 0))) (hp : w.cell? ⟨pb, 2, none⟩ = some (.int .u64 (n : Nat))) :
    Calls Tryz.prog 35 #[.pointer (some ⟨sb, 0, none⟩), .pointer (some ⟨pb, 0, none⟩)] w fun e w' =>
      e = .returned (.pointer (some ⟨sb, 0, none⟩)) ∧ (w.setCell ⟨sb, 0, none⟩ (.slice (some ⟨w.heap.size, 0, none⟩) n n)).alloc (.cells (madeCells #[.int .u64 0, .int .u64 0] (n * 2)) 52) = w' := by
  have ls := lt_of_blk hs
  have hf := frz_alloc ls (blk_frz hs 0) (.cells (madeCells #[.int .u64 0, .int .u64 0] (n * 2)) 52)
  have hc := cell_alloc (blk_cell hs 0) (.cells (madeCells #[.int .u64 0, .int .u64 0] (n * 2)) 52)
  go_enter Tryz.func35, Tryz.ntmps35
  go_wp2_with (first
    | (go_at_call 56; refine (outLen hp).mono ?_; rintro e w' ⟨rfl, rfl⟩)
    | (go_at_call 65; refine (newVec128 hn).mono ?_; rintro e w' ⟨rfl, rfl⟩))
  go_ret
  exact ⟨rfl, rfl⟩
end Go.Proofs.YtlmmdldjfpdcfaaGreatDoor

/-
  The shares over fp128: read from the text, through the interfaces.
-/
namespace Go.Proofs.YtlmmdldjfpdcfaaGreatDoor
open Go.RowKit

theorem osUnm128 {ob sb vb n vc b o m c : Nat} {w : World} {cz : Array Value} {vt : TypeId} (l : List Nat) (ho : w.cell? ⟨ob, 0, none⟩ = some (.slice (some ⟨vb, 0, none⟩) n vc))
    (hs : ∃ a, w.heap[sb]? = some (.cells #[.slice a m c] 219 (0, 0)) ∧ (m ≠ 0 → a = some ⟨b, o, none⟩)) (hv : w.heap[vb]? = some (.cells cz vt (0, 0))) (hne : vb ≠ sb) (hbs : b ≠ sb) (hbv : b ≠ vb)
    (hcz : cz.size = 2 * n) (hn : n ≤ 1000) (hmc : m ≤ c) (hc : c ≤ 140737488351232) (hlm : l.length = m) (hlt : ∀ x ∈ l, x < 256)
    (hcell : ∀ i, i < m → w.cell? ⟨b, o + i, none⟩ = some (.int .u8 (l.getD i 0 : Nat))) :
    Calls Tryz.prog 234 #[.pointer (some ⟨ob, 0, none⟩), .pointer (some ⟨sb, 0, none⟩)] w fun e w' =>
      e = .returned (.bool (okN 16 P128 n l)) ∧ (okN 16 P128 n l = false → Ext w w' (fun q => q = sb ∨ q = vb)) ∧
        (okN 16 P128 n l = true → UnmRel w sb vb b o m c 16 P128 enc128 tom128 cz vt l n w') := by
  have K := vecUnm128 (vc := vc) l hs hv hne hbs hbv hcz hn hmc hc hlm hlt hcell
  clear hs hv hcz hlm hlt hcell
  go_enter Tryz.func234, Tryz.ntmps234
  go_wp2_with (go_at_call 162; refine K.mono ?_; rintro e w' ⟨rfl, h1, h2⟩; have H1 := Lib.hid h1; clear h1; have H2 := Lib.hid h2; clear h2)
  go_ret
  exact ⟨rfl, H1.out, H2.out⟩

end Go.Proofs.YtlmmdldjfpdcfaaGreatDoor

/-
  The shares over fp128: a whole share read from bytes (conv.UnmarshalBinary at an OutShare).
-/
namespace Go.Proofs.YtlmmdldjfpdcfaaGreatDoor
open Go.RowKit

set_option maxHeartbeats 400000 in
theorem convUnm128 {ob vb n vc : Nat} {w : World} {cz : Array Value} {vt : TypeId} {v : Value} (l : List Nat) (ho : w.cell? ⟨ob, 0, none⟩ = some (.slice (some ⟨vb, 0, none⟩) n vc))
    (hv : w.heap[vb]? = some (.cells cz vt (0, 0))) (hcz : cz.size = 2 * n) (hn0 : 0 < n) (hn : n ≤ 1000) (hB : IsB w v l) (hd : ∀ b o m c, v = .slice (some ⟨b, o, none⟩) m c → m ≠ 0 → b ≠ vb) :
    Calls Tryz.prog 57 #[.iface 102 (.pointer (some ⟨ob, 0, none⟩)), v] w fun e w' =>
      (good 16 P128 n l → e = .returned .nilIface ∧ Ext w w' (fun q => q = vb) ∧ w'.heap[vb]? = some (.cells (vecC enc128 ((chunks 16 n l).map tom128)).toArray vt (0, 0))) ∧
        (¬ good 16 P128 n l → (∃ t p, e = .returned (.iface t p)) ∧ Ext w w' (fun q => q = vb)) := by
  obtain ⟨hlt, a, c, rfl, hmc, hc, hcell⟩ := hB
  have hcz' := hcz
  have lv := lt_of_blk hv
  have lo := World.block_lt_of_cell? _ _ ho
  have qT : ∀ (w : World) (a : Option Addr) (n c n' c' : Nat), (binOp .eql 23 (.slice a n c) (.slice none n' c')).run Tryz.prog w = .ok (.bool a.isNone) w := fun w a n c n' c' => Lib.run_eql_slice_nil w _ _ a n c n' c' Tryz.underlying23
  by_cases ha : a = none
  · subst ha
    have hl0 : l.length = 0 := by
      rcases hcell with h | ⟨b, o, h, -⟩
      · exact h
      · exact absurd h (by simp)
    have hbad : ¬ good 16 P128 n l := fun h => by have := h.2; omega
    clear hv hcell hlt ho hd
    have Hl := Lib.hid hl0; clear hl0
    go_enter Tryz.func57, Tryz.ntmps57
    go_wp2_with (go_at_call 72; refine (errNew _ _).mono ?_; rintro e w' ⟨rfl, hx⟩)
    go_ret
    exact ⟨fun h => (hbad h).elim, fun _ => ⟨⟨_, _, rfl⟩, (((Ext.refl w _).alloc _).transNo hx)⟩⟩
  · obtain ⟨a0, rfl⟩ := Option.ne_none_iff_exists'.1 ha
    obtain ⟨b, o, hbw, hbv, hcl, hmb⟩ : ∃ b o, b ≠ w.heap.size ∧ b ≠ vb ∧ (∀ i, i < l.length → w.cell? ⟨b, o + i, none⟩ = some (.int .u8 (l.getD i 0 : Nat))) ∧ (l.length ≠ 0 → some a0 = some ⟨b, o, none⟩) := by
      by_cases h0 : l.length = 0
      · exact ⟨w.heap.size + 1, 0, by omega, by omega, fun i hi => by omega, fun h => (h h0).elim⟩
      · rcases hcell with h | ⟨b, o, h, hh⟩
        · exact (h0 h).elim
        · have := World.block_lt_of_cell? _ _ (hh 0 (by omega))
          exact ⟨b, o, Nat.ne_of_lt this, hd b o _ c (by rw [h]) h0, hh, fun _ => h⟩
    have hmm : ∃ x, x = l.length := ⟨_, rfl⟩
    obtain ⟨m, hm⟩ := hmm
    rw [← hm] at hmc hcl hmb ⊢
    have K := osUnm128 (w := w.alloc (.cells #[.slice (some a0) m c] 219)) (sb := w.heap.size) (b := b) (o := o) (m := m) (c := c) l (cell_alloc ho _) ⟨_, blk_new _ _, hmb⟩ (blk_alloc hv _) (Nat.ne_of_lt lv) hbw hbv hcz hn hmc hc hm.symm hlt (fun i hi => cell_alloc (hcl i hi) _)
    clear hv hcell hlt ho hd hcl hcz
    have HM := Lib.hid hm; clear hm
    have hS : ∀ w', Ext (w.alloc (.cells #[.slice (some a0) m c] 219)) w' (fun q => q = w.heap.size ∨ q = vb) → Ext w w' (fun q => q = vb) := fun w' h =>
      ((Ext.refl w _).alloc _).trans h (fun i hi h => by rcases h with rfl | rfl <;> first | omega | rfl)
    have HS := Lib.hid hS; clear hS
    by_cases hok : okN 16 P128 n l = true
    · rw [hok] at K
      by_cases hlen : m = n * 16
      · have hg : good 16 P128 n l := ⟨hok, by rw [← HM.out]; exact hlen⟩
        have hz : decide (m - n * 16 = 0) = true := decide_eq_true (by omega)
        have HG := Lib.hid hg; clear hg hok hlen
        have HZ := Lib.hid hcz'; clear hcz'
        go_enter Tryz.func57, Tryz.ntmps57
        go_wp2_with (first
          | (go_at_call 234; refine K.mono ?_; rintro e w1 ⟨rfl, -, h1⟩; obtain ⟨-, -, hx1, ⟨a1, hs1, -⟩, hb1⟩ := h1 rfl; have hs2 := blk_cell hs1 0; have H1 := Lib.hid (HS.out _ hx1); clear hx1 h1 hs1; have HB1 := Lib.hid hb1; clear hb1)
          | (go_at_call 71; refine strEmpty.mono ?_; rintro e w' ⟨rfl, rfl⟩; rw [hz]))
        go_ret
        refine ⟨fun _ => ⟨rfl, H1.out, ?_⟩, fun h => (h HG.out).elim⟩
        have h := HB1.out
        rw [putL_all _ _ (by rw [vecC_len128, List.length_map, chunks_len, HZ.out])] at h
        exact h
      · have hg : ¬ good 16 P128 n l := fun h => hlen (by rw [HM.out]; exact h.2)
        have hz : decide (m - n * 16 = 0) = false := decide_eq_false (by
          have := ((okN_iff _ _ _ _).1 hok).1
          have := HM.out
          omega)
        have HG := Lib.hid hg; clear hg hok
        go_enter Tryz.func57, Tryz.ntmps57
        go_wp2_with (first
          | (go_at_call 234; refine K.mono ?_; rintro e w1 ⟨rfl, -, h1⟩; obtain ⟨-, -, hx1, ⟨a1, hs1, -⟩, -⟩ := h1 rfl; have hs2 := blk_cell hs1 0; have H1 := Lib.hid (HS.out _ hx1); clear hx1 h1 hs1)
          | (go_at_call 71; refine strEmpty.mono ?_; rintro e w' ⟨rfl, rfl⟩; rw [hz])
          | (go_at_call 72; refine (errNew _ _).mono ?_; rintro e w' ⟨rfl, hx⟩))
        go_ret
        exact ⟨fun h => (HG.out h).elim, fun _ => ⟨⟨_, _, rfl⟩, H1.out.transNo hx⟩⟩
    · have hok' : okN 16 P128 n l = false := by simpa using hok
      have hbad : ¬ good 16 P128 n l := fun h => hok h.1
      rw [hok'] at K
      have HG := Lib.hid hbad; clear hbad hok hok'
      go_enter Tryz.func57, Tryz.ntmps57
      go_wp2_with (first
        | (go_at_call 234; refine K.mono ?_; rintro e w1 ⟨rfl, h1, -⟩; have H1 := Lib.hid (HS.out _ (h1 rfl)); clear h1)
        | (go_at_call 72; refine (errNew _ _).mono ?_; rintro e w' ⟨rfl, hx⟩))
      go_ret
      exact ⟨fun h => (HG.out h).elim, fun _ => ⟨⟨_, _, rfl⟩, H1.out.transNo hx⟩⟩
end Go.Proofs.YtlmmdldjfpdcfaaGreatDoor
