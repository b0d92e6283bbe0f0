/-
  Which function a method call runs, for each type that the walks meet behind an interface.
-/
import Derived.Test.YtlmmdldjfpdcfaaGreatDoorM01
import Derived.Test.YtlmmdldjfpdcfaaGreatDoorM06
import Derived.Lib.SliceRun
namespace Go.Proofs.YtlmmdldjfpdcfaaGreatDoor
open Go.RowKit

@[go_sem] theorem ahead42u (v : Value) (w : World) : (nilAhead 486 42 v "Unmarshal").run Tryz.prog w = .ok (some false) w := by kernel_rfl
@[go_sem] theorem meth42u (v : Value) (w : World) : (method 486 42 v "Unmarshal").run Tryz.prog w = .ok (148, v) w := by kernel_rfl
@[go_sem] theorem ahead42m (v : Value) (w : World) : (nilAhead 486 42 v "Marshal").run Tryz.prog w = .ok (some false) w := by kernel_rfl
@[go_sem] theorem meth42m (v : Value) (w : World) : (method 486 42 v "Marshal").run Tryz.prog w = .ok (146, v) w := by kernel_rfl
@[go_sem] theorem ahead42s (v : Value) (w : World) : (nilAhead 486 42 v "Size").run Tryz.prog w = .ok (some false) w := by kernel_rfl
@[go_sem] theorem meth42s (v : Value) (w : World) : (method 486 42 v "Size").run Tryz.prog w = .ok (147, v) w := by kernel_rfl
@[go_sem] theorem ahead42a (v : Value) (w : World) : (nilAhead 486 42 v "AddAssign").run Tryz.prog w = .ok (some false) w := by kernel_rfl
@[go_sem] theorem meth42a (v : Value) (w : World) : (method 486 42 v "AddAssign").run Tryz.prog w = .ok (284, v) w := by kernel_rfl
@[go_sem] theorem ahead50u (v : Value) (w : World) : (nilAhead 486 50 v "Unmarshal").run Tryz.prog w = .ok (some false) w := by kernel_rfl
@[go_sem] theorem meth50u (v : Value) (w : World) : (method 486 50 v "Unmarshal").run Tryz.prog w = .ok (162, v) w := by kernel_rfl
@[go_sem] theorem ahead50m (v : Value) (w : World) : (nilAhead 486 50 v "Marshal").run Tryz.prog w = .ok (some false) w := by kernel_rfl
@[go_sem] theorem meth50m (v : Value) (w : World) : (method 486 50 v "Marshal").run Tryz.prog w = .ok (160, v) w := by kernel_rfl
@[go_sem] theorem ahead50s (v : Value) (w : World) : (nilAhead 486 50 v "Size").run Tryz.prog w = .ok (some false) w := by kernel_rfl
@[go_sem] theorem meth50s (v : Value) (w : World) : (method 486 50 v "Size").run Tryz.prog w = .ok (161, v) w := by kernel_rfl
@[go_sem] theorem ahead50a (v : Value) (w : World) : (nilAhead 486 50 v "AddAssign").run Tryz.prog w = .ok (some false) w := by kernel_rfl
@[go_sem] theorem meth50a (v : Value) (w : World) : (method 486 50 v "AddAssign").run Tryz.prog w = .ok (287, v) w := by kernel_rfl
@[go_sem] theorem ahead81 (a : Addr) (w : World) : (nilAhead 486 81 (.pointer (some a)) "Unmarshal").run Tryz.prog w = .ok (some false) w := by kernel_rfl
@[go_sem] theorem meth81 (a : Addr) (w : World) : (method 486 81 (.pointer (some a)) "Unmarshal").run Tryz.prog w = .ok (194, .pointer (some a)) w := by kernel_rfl
@[go_sem] theorem ahead102 (a : Addr) (w : World) : (nilAhead 486 102 (.pointer (some a)) "Unmarshal").run Tryz.prog w = .ok (some false) w := by kernel_rfl
@[go_sem] theorem meth102 (a : Addr) (w : World) : (method 486 102 (.pointer (some a)) "Unmarshal").run Tryz.prog w = .ok (234, .pointer (some a)) w := by kernel_rfl
@[go_sem] theorem ahead87 (a : Addr) (w : World) : (nilAhead 486 87 (.pointer (some a)) "Marshal").run Tryz.prog w = .ok (some false) w := by kernel_rfl
@[go_sem] theorem meth87 (a : Addr) (w : World) : (method 486 87 (.pointer (some a)) "Marshal").run Tryz.prog w = .ok (201, .pointer (some a)) w := by kernel_rfl
@[go_sem] theorem ahead106 (a : Addr) (w : World) : (nilAhead 486 106 (.pointer (some a)) "Marshal").run Tryz.prog w = .ok (some false) w := by kernel_rfl
@[go_sem] theorem meth106 (a : Addr) (w : World) : (method 486 106 (.pointer (some a)) "Marshal").run Tryz.prog w = .ok (235, .pointer (some a)) w := by kernel_rfl
end Go.Proofs.YtlmmdldjfpdcfaaGreatDoor

/-
  The shares over fp64: read from the text, through the interfaces.
-/
namespace Go.Proofs.YtlmmdldjfpdcfaaGreatDoor
open Go.RowKit

theorem osUnm64 {ob sb vb n vc b o m c : Nat} {w : World} {cz : Array Value} {vt : TypeId} (l : List Nat) (ho : w.cell? ⟨ob, 0, none⟩ = some (.slice (some ⟨vb, 0, none⟩) n vc))
    (hs : ∃ a, w.heap[sb]? = some (.cells #[.slice a m c] 219 (0, 0)) ∧ (m ≠ 0 → a = some ⟨b, o, none⟩)) (hv : w.heap[vb]? = some (.cells cz vt (0, 0))) (hne : vb ≠ sb) (hbs : b ≠ sb) (hbv : b ≠ vb)
    (hcz : cz.size = n) (hn : n ≤ 1000) (hmc : m ≤ c) (hc : c ≤ 140737488351232) (hlm : l.length = m) (hlt : ∀ x ∈ l, x < 256)
    (hcell : ∀ i, i < m → w.cell? ⟨b, o + i, none⟩ = some (.int .u8 (l.getD i 0 : Nat))) :
    Calls Tryz.prog 194 #[.pointer (some ⟨ob, 0, none⟩), .pointer (some ⟨sb, 0, none⟩)] w fun e w' =>
      e = .returned (.bool (okN 8 P64 n l)) ∧ (okN 8 P64 n l = false → Ext w w' (fun q => q = sb ∨ q = vb)) ∧
        (okN 8 P64 n l = true → UnmRel w sb vb b o m c 8 P64 enc64 tom64 cz vt l n w') := by
  have K := vecUnm64 (vc := vc) l hs hv hne hbs hbv hcz hn hmc hc hlm hlt hcell
  clear hs hv hcz hlm hlt hcell
  go_enter Tryz.func194, Tryz.ntmps194
  go_wp2_with (go_at_call 148; refine K.mono ?_; rintro e w' ⟨rfl, h1, h2⟩; have H1 := Lib.hid h1; clear h1; have H2 := Lib.hid h2; clear h2)
  go_ret
  exact ⟨rfl, H1.out, H2.out⟩

theorem errNew (s : ByteArray) (w : World) : Calls Tryz.prog 72 #[.string s] w fun e w' => e = .returned (.iface 261 (.pointer (some ⟨w.heap.size, 0, none⟩))) ∧ Ext w w' No := by
  go_enter Tryz.func72, Tryz.ntmps72
  go_wp2
  go_ret
  exact ⟨rfl, (Ext.refl w No).alloc _⟩
theorem strEmpty {a : Option Addr} {m c : Nat} {w : World} : Calls Tryz.prog 71 #[.slice a m c] w fun e w' => e = .returned (.bool (decide (m = 0))) ∧ w = w' := by
  have hd : ((m : Int) == 0) = decide (m = 0) := by by_cases h : m = 0 <;> simp [h]
  go_enter Tryz.func71, Tryz.ntmps71
  go_wp2
  go_ret
  exact ⟨rfl, rfl⟩
end Go.Proofs.YtlmmdldjfpdcfaaGreatDoor

/-
  The shares over fp64: a whole share read from bytes (conv.UnmarshalBinary at an OutShare).
-/
namespace Go.Proofs.YtlmmdldjfpdcfaaGreatDoor
open Go.RowKit

/-- The bytes are n numbers below p, and no more. -/
def good (sz p n : Nat) (l : List Nat) : Prop := okN sz p n l = true ∧ l.length = n * sz

set_option maxHeartbeats 400000 in
theorem convUnm64 {ob vb n vc : Nat} {w : World} {cz : Array Value} {vt : TypeId} {v : Value} (l : List Nat) (ho : w.cell? ⟨ob, 0, none⟩ = some (.slice (some ⟨vb, 0, none⟩) n vc))
    (hv : w.heap[vb]? = some (.cells cz vt (0, 0))) (hcz : cz.size = n) (hn0 : 0 < n) (hn : n ≤ 1000) (hB : IsB w v l) (hd : ∀ b o m c, v = .slice (some ⟨b, o, none⟩) m c → m ≠ 0 → b ≠ vb) :
    Calls Tryz.prog 57 #[.iface 81 (.pointer (some ⟨ob, 0, none⟩)), v] w fun e w' =>
      (good 8 P64 n l → e = .returned .nilIface ∧ Ext w w' (fun q => q = vb) ∧ w'.heap[vb]? = some (.cells (vecC enc64 ((chunks 8 n l).map tom64)).toArray vt (0, 0))) ∧
        (¬ good 8 P64 n l → (∃ t p, e = .returned (.iface t p)) ∧ Ext w w' (fun q => q = vb)) := by
  obtain ⟨hlt, a, c, rfl, hmc, hc, hcell⟩ := hB
  have hcz' := hcz
  have lv := lt_of_blk hv
  have lo := World.block_lt_of_cell? _ _ ho
  have qT : ∀ (w : World) (a : Option Addr) (n c n' c' : Nat), (binOp .eql 23 (.slice a n c) (.slice none n' c')).run Tryz.prog w = .ok (.bool a.isNone) w := fun w a n c n' c' => Lib.run_eql_slice_nil w _ _ a n c n' c' Tryz.underlying23
  by_cases ha : a = none
  · subst ha
    have hl0 : l.length = 0 := by
      rcases hcell with h | ⟨b, o, h, -⟩
      · exact h
      · exact absurd h (by simp)
    have hbad : ¬ good 8 P64 n l := fun h => by have := h.2; omega
    clear hv hcell hlt ho hd
    have Hl := Lib.hid hl0; clear hl0
    go_enter Tryz.func57, Tryz.ntmps57
    go_wp2_with (go_at_call 72; refine (errNew _ _).mono ?_; rintro e w' ⟨rfl, hx⟩)
    go_ret
    exact ⟨fun h => (hbad h).elim, fun _ => ⟨⟨_, _, rfl⟩, (((Ext.refl w _).alloc _).transNo hx)⟩⟩
  · obtain ⟨a0, rfl⟩ := Option.ne_none_iff_exists'.1 ha
    obtain ⟨b, o, hbw, hbv, hcl, hmb⟩ : ∃ b o, b ≠ w.heap.size ∧ b ≠ vb ∧ (∀ i, i < l.length → w.cell? ⟨b, o + i, none⟩ = some (.int .u8 (l.getD i 0 : Nat))) ∧ (l.length ≠ 0 → some a0 = some ⟨b, o, none⟩) := by
      by_cases h0 : l.length = 0
      · exact ⟨w.heap.size + 1, 0, by omega, by omega, fun i hi => by omega, fun h => (h h0).elim⟩
      · rcases hcell with h | ⟨b, o, h, hh⟩
        · exact (h0 h).elim
        · have := World.block_lt_of_cell? _ _ (hh 0 (by omega))
          exact ⟨b, o, Nat.ne_of_lt this, hd b o _ c (by rw [h]) h0, hh, fun _ => h⟩
    have hmm : ∃ x, x = l.length := ⟨_, rfl⟩
    obtain ⟨m, hm⟩ := hmm
    rw [← hm] at hmc hcl hmb ⊢
    have K := osUnm64 (w := w.alloc (.cells #[.slice (some a0) m c] 219)) (sb := w.heap.size) (b := b) (o := o) (m := m) (c := c) l (cell_alloc ho _) ⟨_, blk_new _ _, hmb⟩ (blk_alloc hv _) (Nat.ne_of_lt lv) hbw hbv hcz hn hmc hc hm.symm hlt (fun i hi => cell_alloc (hcl i hi) _)
    clear hv hcell hlt ho hd hcl hcz
    have HM := Lib.hid hm; clear hm
    have hS : ∀ w', Ext (w.alloc (.cells #[.slice (some a0) m c] 219)) w' (fun q => q = w.heap.size ∨ q = vb) → Ext w w' (fun q => q = vb) := fun w' h =>
      ((Ext.refl w _).alloc _).trans h (fun i hi h => by rcases h with rfl | rfl <;> first | omega | rfl)
    have HS := Lib.hid hS; clear hS
    by_cases hok : okN 8 P64 n l = true
    · rw [hok] at K
      by_cases hlen : m = n * 8
      · have hg : good 8 P64 n l := ⟨hok, by rw [← HM.out]; exact hlen⟩
        have hz : decide (m - n * 8 = 0) = true := decide_eq_true (by omega)
        have HG := Lib.hid hg; clear hg hok hlen
        have HZ := Lib.hid hcz'; clear hcz'
        go_enter Tryz.func57, Tryz.ntmps57
        go_wp2_with (first
          | (go_at_call 194; refine K.mono ?_; rintro e w1 ⟨rfl, -, h1⟩; obtain ⟨-, -, hx1, ⟨a1, hs1, -⟩, hb1⟩ := h1 rfl; have hs2 := blk_cell hs1 0; have H1 := Lib.hid (HS.out _ hx1); clear hx1 h1 hs1; have HB1 := Lib.hid hb1; clear hb1)
          | (go_at_call 71; refine strEmpty.mono ?_; rintro e w' ⟨rfl, rfl⟩; rw [hz]))
        go_ret
        refine ⟨fun _ => ⟨rfl, H1.out, ?_⟩, fun h => (h HG.out).elim⟩
        have h := HB1.out
        rw [putL_all _ _ (by rw [vecC_len64, List.length_map, chunks_len, HZ.out])] at h
        exact h
      · have hg : ¬ good 8 P64 n l := fun h => hlen (by rw [HM.out]; exact h.2)
        have hz : decide (m - n * 8 = 0) = false := decide_eq_false (by
          have := ((okN_iff _ _ _ _).1 hok).1
          have := HM.out
          omega)
        have HG := Lib.hid hg; clear hg hok
        go_enter Tryz.func57, Tryz.ntmps57
        go_wp2_with (first
          | (go_at_call 194; refine K.mono ?_; rintro e w1 ⟨rfl, -, h1⟩; obtain ⟨-, -, hx1, ⟨a1, hs1, -⟩, -⟩ := h1 rfl; have hs2 := blk_cell hs1 0; have H1 := Lib.hid (HS.out _ hx1); clear hx1 h1 hs1)
          | (go_at_call 71; refine strEmpty.mono ?_; rintro e w' ⟨rfl, rfl⟩; rw [hz])
          | (go_at_call 72; refine (errNew _ _).mono ?_; rintro e w' ⟨rfl, hx⟩))
        go_ret
        exact ⟨fun h => (HG.out h).elim, fun _ => ⟨⟨_, _, rfl⟩, H1.out.transNo hx⟩⟩
    · have hok' : okN 8 P64 n l = false := by simpa using hok
      have hbad : ¬ good 8 P64 n l := fun h => hok h.1
      rw [hok'] at K
      have HG := Lib.hid hbad; clear hbad hok hok'
      go_enter Tryz.func57, Tryz.ntmps57
      go_wp2_with (first
        | (go_at_call 194; refine K.mono ?_; rintro e w1 ⟨rfl, h1, -⟩; have H1 := Lib.hid (HS.out _ (h1 rfl)); clear h1)
        | (go_at_call 72; refine (errNew _ _).mono ?_; rintro e w' ⟨rfl, hx⟩))
      go_ret
      exact ⟨fun h => (HG.out h).elim, fun _ => ⟨⟨_, _, rfl⟩, H1.out.transNo hx⟩⟩
end Go.Proofs.YtlmmdldjfpdcfaaGreatDoor

/-
  The shares over fp64: read from bytes; an aggregate written as bytes.
-/
namespace Go.Proofs.YtlmmdldjfpdcfaaGreatDoor
open Go.RowKit

theorem osUnmBin64 {ob vb n vc : Nat} {w : World} {cz : Array Value} {vt : TypeId} {v : Value} (l : List Nat) (ho : w.cell? ⟨ob, 0, none⟩ = some (.slice (some ⟨vb, 0, none⟩) n vc))
    (hv : w.heap[vb]? = some (.cells cz vt (0, 0))) (hcz : cz.size = n) (hn0 : 0 < n) (hn : n ≤ 1000) (hB : IsB w v l) (hd : ∀ b o m c, v = .slice (some ⟨b, o, none⟩) m c → m ≠ 0 → b ≠ vb) :
    Calls Tryz.prog 30 #[.pointer (some ⟨ob, 0, none⟩), v] w fun e w' =>
      (good 8 P64 n l → e = .returned .nilIface ∧ Ext w w' (fun q => q = vb) ∧ w'.heap[vb]? = some (.cells (vecC enc64 ((chunks 8 n l).map tom64)).toArray vt (0, 0))) ∧
        (¬ good 8 P64 n l → (∃ t p, e = .returned (.iface t p)) ∧ Ext w w' (fun q => q = vb)) := by
  have K := convUnm64 (vc := vc) l ho hv hcz hn0 hn hB hd
  obtain ⟨-, a, c, rfl, -⟩ := hB
  clear ho hv hcz hd
  by_cases hg : good 8 P64 n l
  · have K2 := K.mono (fun e w' h => h.1 hg)
    have HG := Lib.hid hg; clear hg K
    go_enter Tryz.func30, Tryz.ntmps30
    go_wp2_with (go_at_call 57; refine K2.mono ?_; rintro e w' ⟨rfl, h1, h2⟩; have H2 := Lib.hid h2; clear h2)
    go_ret
    exact ⟨fun _ => ⟨rfl, h1, H2.out⟩, fun h => (h HG.out).elim⟩
  · have K2 := K.mono (fun e w' h => h.2 hg)
    have HG := Lib.hid hg; clear hg K
    go_enter Tryz.func30, Tryz.ntmps30
    go_wp2_with (go_at_call 57; refine K2.mono ?_; rintro e w' ⟨⟨t, p, rfl⟩, h1⟩)
    go_ret
    exact ⟨fun h => (HG.out h).elim, fun _ => ⟨⟨t, p, rfl⟩, h1⟩⟩

theorem size64 {a : Option Addr} {n c : Nat} {w : World} (hn : n ≤ 1000) : Calls Tryz.prog 147 #[.slice a n c] w fun e w' => e = .returned (.int .u64 ((n * 8 : Nat) : Int)) ∧ w = w' := by
  go_enter Tryz.func147, Tryz.ntmps147
  go_wp2
  go_ret
  exact ⟨by show Ending.returned (.int .u64 (8 * (n : Int))) = _; congr 2; omega, rfl⟩

theorem builder {a : Option Addr} {n c : Nat} {w : World} : Calls Tryz.prog 73 #[.slice a n c] w fun e w' => e = .returned (.pointer (some ⟨w.heap.size, 0, none⟩)) ∧ w.alloc (.cells #[.nilIface, .slice a n c, .bool true] 265) = w' := by
  go_enter Tryz.func73, Tryz.ntmps73
  go_wp2
  go_ret
  exact ⟨rfl, rfl⟩

theorem bldBytes {base bb g cap : Nat} {done : List Nat} {w : World} (hB : Bld base w bb g cap done) : Calls Tryz.prog 75 #[.pointer (some ⟨bb, 0, none⟩)] w fun e w' =>
    e = .returned (.tuple #[.slice (some ⟨g, 0, none⟩) done.length cap, .nilIface]) ∧ w = w' := by
  have c0 := blk_cell hB.1 0
  have c1 := blk_cell hB.1 1
  clear hB
  go_enter Tryz.func75, Tryz.ntmps75
  go_wp2
  go_ret2
  exact ⟨rfl, rfl⟩

theorem addVec64 {base vb n vc bb g cap : Nat} {done vs : List Nat} {w : World} {vt : TypeId} (hlen : vs.length = n) (hlt : ∀ i, i < n → vs.getD i 0 < P64) (hv : w.heap[vb]? = some (.cells (vecC enc64 vs).toArray vt (0, 0)))
    (hB : Bld base w bb g cap done) (hne : bb ≠ g) (hvb : vb ≠ bb) (hvg : vb ≠ g) (hn : n ≤ 1000) (hroom : done.length + n * 8 ≤ cap) (hcap : cap ≤ 100000) :
    Calls Tryz.prog 74 #[.pointer (some ⟨bb, 0, none⟩), .iface 42 (.slice (some ⟨vb, 0, none⟩) n vc)] w fun e w' =>
      e = .returned (.tuple #[]) ∧ Ext w w' (fun k => k = bb ∨ k = g) ∧ Bld base w' bb g cap (done ++ flat out64 vs) := by
  have K := vecMar64 (vc := vc) hlen hlt hv hB hne hvb hvg hn hroom hcap
  clear hlen hlt hv hB hroom
  go_enter Tryz.func74, Tryz.ntmps74
  go_wp2_with (go_at_call 146; refine K.mono ?_; rintro e w' ⟨rfl, h1, h2⟩; have H2 := Lib.hid h2; clear h2)
  go_end0
  exact ⟨rfl, h1, H2.out⟩

theorem aggMar64 {base gb vb n vc bb g cap : Nat} {done vs : List Nat} {w : World} {vt : TypeId} (hg : w.cell? ⟨gb, 0, none⟩ = some (.slice (some ⟨vb, 0, none⟩) n vc)) (hlen : vs.length = n) (hlt : ∀ i, i < n → vs.getD i 0 < P64) (hv : w.heap[vb]? = some (.cells (vecC enc64 vs).toArray vt (0, 0)))
    (hB : Bld base w bb g cap done) (hne : bb ≠ g) (hvb : vb ≠ bb) (hvg : vb ≠ g) (hn : n ≤ 1000) (hroom : done.length + n * 8 ≤ cap) (hcap : cap ≤ 100000) :
    Calls Tryz.prog 201 #[.pointer (some ⟨gb, 0, none⟩), .pointer (some ⟨bb, 0, none⟩)] w fun e w' =>
      e = .returned .nilIface ∧ Ext w w' (fun k => k = bb ∨ k = g) ∧ Bld base w' bb g cap (done ++ flat out64 vs) := by
  have K := addVec64 (vc := vc) hlen hlt hv hB hne hvb hvg hn hroom hcap
  clear hlen hlt hv hB hroom
  go_enter Tryz.func201, Tryz.ntmps201
  go_wp2_with (go_at_call 74; refine K.mono ?_; rintro e w' ⟨rfl, h1, h2⟩; have H2 := Lib.hid h2; clear h2)
  go_ret
  exact ⟨rfl, h1, H2.out⟩

theorem addAgg64 {base gb vb n vc bb g cap : Nat} {done vs : List Nat} {w : World} {vt : TypeId} (hg : w.cell? ⟨gb, 0, none⟩ = some (.slice (some ⟨vb, 0, none⟩) n vc)) (hlen : vs.length = n) (hlt : ∀ i, i < n → vs.getD i 0 < P64) (hv : w.heap[vb]? = some (.cells (vecC enc64 vs).toArray vt (0, 0)))
    (hB : Bld base w bb g cap done) (hne : bb ≠ g) (hvb : vb ≠ bb) (hvg : vb ≠ g) (hn : n ≤ 1000) (hroom : done.length + n * 8 ≤ cap) (hcap : cap ≤ 100000) :
    Calls Tryz.prog 74 #[.pointer (some ⟨bb, 0, none⟩), .iface 87 (.pointer (some ⟨gb, 0, none⟩))] w fun e w' =>
      e = .returned (.tuple #[]) ∧ Ext w w' (fun k => k = bb ∨ k = g) ∧ Bld base w' bb g cap (done ++ flat out64 vs) := by
  have K := aggMar64 (vc := vc) hg hlen hlt hv hB hne hvb hvg hn hroom hcap
  clear hg hlen hlt hv hB hroom
  go_enter Tryz.func74, Tryz.ntmps74
  go_wp2_with (go_at_call 201; refine K.mono ?_; rintro e w' ⟨rfl, h1, h2⟩; have H2 := Lib.hid h2; clear h2)
  go_end0
  exact ⟨rfl, h1, H2.out⟩

theorem ownsRow_alloc {w : World} {base : Nat} {e : TypeId} {size : Nat} {g n cap : Nat} {xs : List Value} (h : w.ownsRow base e size (.slice (some ⟨g, 0, none⟩) n cap) n xs) (o : Obj) :
    (w.alloc o).ownsRow base e size (.slice (some ⟨g, 0, none⟩) n cap) n xs := by
  obtain ⟨h1, h2⟩ := h
  refine ⟨h1, ?_⟩
  rcases h2 with h2 | ⟨g', cap', cur, hv, hg, hh, r⟩
  · exact .inl h2
  · simp only [Value.slice.injEq, Option.some.injEq, Addr.mk.injEq, and_true, true_and] at hv
    obtain ⟨rfl, rfl⟩ := hv
    exact .inr ⟨g, cap, cur, rfl, hg, blk_alloc hh _, r⟩

theorem marLen64 {gb vb n vc cap : Nat} {vs : List Nat} {w : World} {vt : TypeId} (hg : w.cell? ⟨gb, 0, none⟩ = some (.slice (some ⟨vb, 0, none⟩) n vc)) (hlen : vs.length = n) (hlt : ∀ i, i < n → vs.getD i 0 < P64) (hv : w.heap[vb]? = some (.cells (vecC enc64 vs).toArray vt (0, 0))) (hn : n ≤ 1000) (hcap : cap = n * 8) :
    Calls Tryz.prog 58 #[.iface 87 (.pointer (some ⟨gb, 0, none⟩)), .int .u64 (cap : Nat)] w fun e w' =>
      ∃ bb, e = .returned (.tuple #[.slice (some ⟨w.heap.size, 0, none⟩) cap cap, .nilIface]) ∧ Ext w w' No ∧ Bld w.heap.size w' bb w.heap.size cap (flat out64 vs) := by
  have lg := World.block_lt_of_cell? _ _ hg
  have lv := lt_of_blk hv
  obtain ⟨i, hi, hz, hs, hb⟩ := of_info info5
  obtain ⟨w1, hr, hown, hgr⟩ := run_make_own (P := Tryz.prog) w w.heap.size 23 5 i _ 1 Tryz.underlying23 hi hz hs .i64 .u64 cap (by rw [hb]; omega) (by simp only [maxLen]; omega) (Nat.le_refl _)
  have hsz : w.heap.size < w1.heap.size := by
    rcases hown.2 with ⟨h, _⟩ | ⟨g', cap', cur, hv', -, hh, -⟩
    · simp at h
    · simp only [Value.slice.injEq, Option.some.injEq, Addr.mk.injEq, and_true, true_and] at hv'
      rw [← hv'.1] at hh
      exact lt_of_blk hh
  have e1 : Ext w w1 No := (Ext.refl w No).grown hgr (fun _ h => by simp at h)
  have hB : Bld w.heap.size (w1.alloc (.cells #[.nilIface, .slice (some ⟨w.heap.size, 0, none⟩) 0 cap, .bool true] 265)) w1.heap.size w.heap.size cap [] := ⟨blk_new _ _, ownsRow_alloc hown _⟩
  have K := addAgg64 (vc := vc) (cell_alloc (e1.cellNo hg) _) hlen hlt (blk_alloc (e1.blkNo hv) _) hB (by omega) (by omega) (by omega) hn (by simp; omega) (by omega)
  clear hg hlt hv hB hown hi hz hs hb hgr
  have hfl : (flat out64 vs).length = cap := by rw [flat_len _ 8 out64_len, hlen, hcap]
  have HF := Lib.hid hfl
  clear hlen hcap hfl
  go_enter Tryz.func58, Tryz.ntmps58
  go_wp2_with (first
    | (go_at_call 73; refine builder.mono ?_; rintro e w' ⟨rfl, rfl⟩)
    | (go_at_call 74; refine K.mono ?_; rintro e w2 ⟨rfl, h1, h2⟩; have H2 := Lib.hid h2; clear h2)
    | (go_at_call 75; refine (bldBytes H2.out).mono ?_; rintro e w' ⟨rfl, rfl⟩))
  go_ret2
  refine ⟨_, ?_, (e1.alloc _).trans h1 (fun i hi h => by rcases h with rfl | rfl <;> omega), H2.out⟩
  have h := HF.out
  simp [h]
end Go.Proofs.YtlmmdldjfpdcfaaGreatDoor
