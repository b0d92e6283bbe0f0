/-
  Bytes taken from the text that is read (String.CopyBytes) and put to the builder (Builder.AddBytes).
-/
import Derived.Test.YtlmmdldjfpdcfaaGreatDoorM02
import Derived.Laws.CopyOwn
namespace Go.Proofs.YtlmmdldjfpdcfaaGreatDoor
open Go.RowKit

theorem Ext.setRowSelf (w : World) (g : Nat) (cs : Array Value) : Ext w (w.setRow g cs) (fun k => k = g) := Ext.setRow (S := fun k => k = g) (Ext.refl _ _) (.inr rfl) cs

theorem wpList_copy_all {P : Program} {w : World} {ops : Array Oper} {rest : List Oper} {o : Oper} {a : Act} {Q : Exit → Act → World → Prop} (hgd : o.guard = none) (d s : Operand) (dT sT : TypeId)
    (ho : o.op = .call { callee := .builtin .copy, args := #[d, s], argTypes := #[dT, sT] }) (elem : TypeId) (hu : P.underlying dT = some (.slice elem)) (hsz : (P.info? elem).map (·.size) = some 1)
    (g n dc sc : Nat) (ad : Addr) (hd : a.eval d = .slice (some ⟨g, 0, none⟩) n dc) (hs : a.eval s = .slice (some ad) n sc)
    (cur : Array Value) (t : TypeId) (hg : w.heap[g]? = some (.cells cur t (0, 0))) (hcur : cur.size = n) (cs : List Value) (hn : cs.length = n)
    (hsrc : ∀ j v, cs[j]? = some v → w.cell? (ad.add j) = some v) (h1 : ∀ v ∈ cs, v.oneCell' = true)
    (h : ∀ w1, Ext w w1 (· = g) → Hid (w1.heap[g]? = some (.cells cs.toArray t (0, 0))) → wpList P ops Q rest (a.put o.dst (goInt n)) w1) : wpList P ops Q (o :: rest) a w := by
  refine wpList_copy_own hgd d s dT sT ho elem hu hsz g 0 n dc ad n sc hd hs cur t hg cs (by rw [hn]; simp) hsrc (by omega) h1 ?_
  rw [hn]
  refine h _ (Ext.setRowSelf _ _ _) ?_
  have e : cur.toList.take 0 ++ (cs ++ cur.toList.drop (0 + n)) = cs := by
    rw [List.take_zero, List.nil_append, List.drop_of_length_le (by simp; omega), List.append_nil]
  rw [e]
  exact setRow_heap w g _ _ t _ hg

theorem u8s_one (l : List Nat) : ∀ v ∈ u8s l, v.oneCell' = true := by
  intro v hv
  simp only [u8s, List.mem_map] at hv
  obtain ⟨x, _, rfl⟩ := hv
  rfl
theorem u8s_len (l : List Nat) : (u8s l).length = l.length := by simp [u8s]
theorem u8s_get (l : List Nat) (j : Nat) (v : Value) (h : (u8s l)[j]? = some v) : j < l.length ∧ v = .int .u8 (l.getD j 0 : Nat) := by
  simp only [u8s, List.getElem?_map, Option.map_eq_some_iff] at h
  obtain ⟨x, hx, rfl⟩ := h
  obtain ⟨hl, rfl⟩ := List.getElem?_eq_some_iff.1 hx
  exact ⟨hl, by simp [List.getD, hl]⟩

/-- A slice of bytes that reads as l. -/
def IsB (w : World) (v : Value) (l : List Nat) : Prop :=
  (∀ x ∈ l, x < 256) ∧ ∃ a c, v = .slice a l.length c ∧ l.length ≤ c ∧ c ≤ 140737488351232 ∧
    (l.length = 0 ∨ ∃ b o, a = some ⟨b, o, none⟩ ∧ ∀ i, i < l.length → w.cell? ⟨b, o + i, none⟩ = some (.int .u8 (l.getD i 0 : Nat)))

theorem copy_short {sb n : Nat} {w : World} {a : Option Addr} {m c ob oc : Nat} (hs : w.heap[sb]? = some (.cells #[.slice a m c] 219 (0, 0))) (hlt : m < n) :
    Calls Tryz.prog 154 #[.pointer (some ⟨sb, 0, none⟩), .slice (some ⟨ob, 0, none⟩) n oc] w fun e w' => e = .returned (.bool false) ∧ w = w' := by
  have h0 : w.cell? ⟨sb, 0, none⟩ = some (.slice a m c) := blk_cell hs 0
  clear hs
  go_enter Tryz.func154, Tryz.ntmps154
  go_wp2
  go_ret
  exact ⟨rfl, rfl⟩

theorem copy_some {sb n : Nat} {w : World} {b o m c ob : Nat} {co : Array Value} {ot : TypeId} (l : List Nat) (hs : w.heap[sb]? = some (.cells #[.slice (some ⟨b, o, none⟩) m c] 219 (0, 0)))
    (ho : w.heap[ob]? = some (.cells co ot (0, 0))) (hne : sb ≠ ob) (hco : co.size = n) (hn0 : 0 < n) (hn : n ≤ m) (hmc : m ≤ c) (_hc : c ≤ 140737488351232) (hlm : l.length = m)
    (hcell : ∀ i, i < m → w.cell? ⟨b, o + i, none⟩ = some (.int .u8 (l.getD i 0 : Nat))) :
    Calls Tryz.prog 154 #[.pointer (some ⟨sb, 0, none⟩), .slice (some ⟨ob, 0, none⟩) n n] w fun e w' =>
      e = .returned (.bool true) ∧ Ext w w' (fun k => k = ob ∨ k = sb) ∧ w'.heap[ob]? = some (.cells (u8s (l.take n)).toArray ot (0, 0)) ∧
        w'.heap[sb]? = some (.cells #[.slice (if c = n then some ⟨b, o, none⟩ else some ⟨b, o + n, none⟩) (m - n) (c - n)] 219 (0, 0)) := by
  have h0 : w.cell? ⟨sb, 0, none⟩ = some (.slice (some ⟨b, o, none⟩) m c) := blk_cell hs 0
  have Hs := Lib.hid hs; clear hs
  have Ho := Lib.hid ho; clear ho
  have Hl := Lib.hid hlm; clear hlm
  have Hcell := Lib.hid hcell; clear hcell
  have Hco := Lib.hid hco; clear hco
  have e1 : (u8s (l.take n)).length = n := by rw [u8s_len, List.length_take, Hl.out]; omega
  have hsrc : ∀ j v, (u8s (l.take n))[j]? = some v → w.cell? ((⟨b, o, none⟩ : Addr).add j) = some v := by
    intro j v hv
    obtain ⟨hj, rfl⟩ := u8s_get _ _ _ hv
    rw [List.length_take] at hj
    have := Hcell.out j (by omega)
    rw [show (⟨b, o, none⟩ : Addr).add j = ⟨b, o + j, none⟩ from by unfold Addr.add; split <;> simp_all]
    rw [this]
    rw [List.getD_eq_getElem?_getD, List.getD_eq_getElem?_getD, List.getElem?_take, if_pos (by omega)]
  have E1 := Lib.hid e1; clear e1
  have Hsrc := Lib.hid hsrc; clear hsrc
  go_enter Tryz.func154, Tryz.ntmps154
  go_wp2_with ((with_reducible refine wpList_copy_all rfl (.tmp 14) (.tmp 19) 23 219 rfl 5 Tryz.underlying23 (by kernel_rfl) ob n n c ⟨b, o, none⟩ rfl rfl co ot Ho.out Hco.out _ E1.out Hsrc.out (u8s_one _) ?_); intro w1 hx1 hb1; have h1 := hx1.cell h0 hne; have f1 := blk_frz (hx1.blk Hs.out hne) 0)
  all_goals
    go_ret
    exact ⟨rfl, (hx1.mono (fun k _ h => .inl h)).set (.inr (.inr rfl)) _, blk_set_ne hb1.out (Ne.symm hne) _, blk_set (hx1.blk Hs.out hne) 0 _⟩

theorem info5 : (Tryz.prog.info? 5).map (fun i => (i.zero, i.size, i.bytes)) = some (some (.int .u8 0), 1, 1) := by kernel_rfl

/-- The builder at block bb: it holds the bytes 'done', in a row of its own from block 'base' on with room for 'cap'. -/
def Bld (base : Nat) (w : World) (bb g cap : Nat) (done : List Nat) : Prop :=
  w.heap[bb]? = some (.cells #[.nilIface, .slice (some ⟨g, 0, none⟩) done.length cap, .bool true] 265 (0, 0)) ∧ w.ownsRow base 5 1 (.slice (some ⟨g, 0, none⟩) done.length cap) done.length (u8s done)

theorem ownsRow_setCell_ne {w : World} {base : Nat} {e : TypeId} {size : Nat} {g n cap : Nat} {xs : List Value} (h : w.ownsRow base e size (.slice (some ⟨g, 0, none⟩) n cap) n xs) {b i : Nat} (hne : b ≠ g) (u : Value) :
    (w.setCell ⟨b, i, none⟩ u).ownsRow base e size (.slice (some ⟨g, 0, none⟩) n cap) n xs := by
  obtain ⟨h1, h2⟩ := h
  refine ⟨h1, ?_⟩
  rcases h2 with h2 | ⟨g', cap', cur, hv, hg, hh, r⟩
  · exact .inl h2
  · simp only [Value.slice.injEq, Option.some.injEq, Addr.mk.injEq, and_true, true_and] at hv
    obtain ⟨rfl, rfl⟩ := hv
    exact .inr ⟨g, cap, cur, rfl, hg, blk_set_ne hh (Ne.symm hne) u, r⟩

set_option maxRecDepth 100000 in
theorem add_bytes {base bb g cap : Nat} {done : List Nat} {w : World} (hB : Bld base w bb g cap done) (hne : bb ≠ g) {vb vo c : Nat} (l : List Nat)
    (hcell : ∀ i, i < l.length → w.cell? ⟨vb, vo + i, none⟩ = some (.int .u8 (l.getD i 0 : Nat))) (hroom : done.length + l.length ≤ cap) (hcap : cap ≤ 100000) :
    Calls Tryz.prog 153 #[.pointer (some ⟨bb, 0, none⟩), .slice (some ⟨vb, vo, none⟩) l.length c] w fun e w' =>
      e = .returned (.tuple #[]) ∧ Ext w w' (fun k => k = bb ∨ k = g) ∧ Bld base w' bb g cap (done ++ l) := by
  obtain ⟨hb, hown⟩ := hB
  have c0 : w.cell? ⟨bb, 0, none⟩ = some .nilIface := blk_cell hb 0
  have c1 : w.cell? ⟨bb, 1, none⟩ = some (.slice (some ⟨g, 0, none⟩) done.length cap) := blk_cell hb 1
  have c2 : w.cell? ⟨bb, 2, none⟩ = some (.bool true) := blk_cell hb 2
  have Hb := Lib.hid hb; clear hb
  have Hcell := Lib.hid hcell; clear hcell
  have hd : decide ((cap : Int) < (done.length : Int) + (l.length : Int)) = false := by simp; omega
  obtain ⟨i5, hi, _hz, hz1, _hz2⟩ := info_parts info5
  have hbN : ∀ n, (w.drewN n).heap[bb]? = some (.cells #[.nilIface, .slice (some ⟨g, 0, none⟩) done.length cap, .bool true] 265 (0, 0)) := fun _ => Hb.out
  have HbN := Lib.hid hbN; clear hbN
  have hrow : some bb ≠ some g := by simpa using hne
  have Hrow := Lib.hid hrow; clear hrow
  have hown' : ∀ n, (w.drewN n).ownsRow base 5 1 (.slice (some ⟨g, 0, none⟩) done.length cap) done.length (u8s done) := fun _ => hown
  have e1 : (u8s l).length = l.length * 1 := by simp [u8s]
  have hsrc : ∀ n, ∀ j u, (u8s l)[j]? = some u → (w.drewN n).cell? ((⟨vb, vo, none⟩ : Addr).add j) = some u := by
    intro n j v hv
    obtain ⟨hj, rfl⟩ := u8s_get _ _ _ hv
    rw [show (⟨vb, vo, none⟩ : Addr).add j = ⟨vb, vo + j, none⟩ from by unfold Addr.add; split <;> simp_all]
    exact Hcell.out j hj
  have E1 := Lib.hid e1; clear e1
  have Hsrc := Lib.hid hsrc; clear hsrc
  have Hown := Lib.hid hown'; clear hown'
  have HI := Lib.hid hi; clear hi
  have HZ := Lib.hid hz1; clear hz1
  go_enter Tryz.func153, Tryz.ntmps153
  go_wp2
  go_quiet (fail)
  go_wp2_with ((with_reducible refine wpList_append_fits _ rfl (.tmp 37) (.tmp 38) 23 rfl base 5 i5 1 Tryz.underlying23 HI.out HZ.out g done.length cap _ rfl (Hown.out _) ⟨vb, vo, none⟩ l.length c _ rfl E1.out (Hsrc.out _) (u8s_one _) hroom ?_); intro w1 hown1 hgr; have hb1 := blk_grown hgr (HbN.out _) Hrow.out; have k1 : w1.cell? ⟨bb, 1, none⟩ = some (.slice (some ⟨g, 0, none⟩) done.length cap) := blk_cell hb1 1; have f1 := blk_frz hb1 1; have HB1 := Lib.hid hb1; clear hb1)
  go_end0
  have hx : Ext w w1 (fun k => k = bb ∨ k = g) := ((Ext.refl w _).drewN _).grown hgr (fun k h => .inr (.inr (by simpa using h.symm)))
  refine ⟨rfl, hx.set (.inr (.inl rfl)) _, ?_, ?_⟩
  · have h := blk_set HB1.out 1 (.slice (some ⟨g, 0, none⟩) (done.length + l.length) cap)
    rw [List.length_append]
    exact h
  · rw [List.length_append, show u8s (done ++ l) = u8s done ++ u8s l from by simp [u8s]]
    exact ownsRow_setCell_ne hown1 hne _
end Go.Proofs.YtlmmdldjfpdcfaaGreatDoor

/-
  fp64's numbers: read from bytes, written to them, added in place.
-/
namespace Go.Proofs.YtlmmdldjfpdcfaaGreatDoor
open Go.RowKit

theorem fromMont64 {bo oo v : Nat} {w : World} (hv : v < P64) (hco : w.cell? ⟨bo, oo, none⟩ = some (.int .u64 (v : Int))) :
    Calls Tryz.prog 151 #[.pointer (some ⟨bo, oo, none⟩)] w fun e w' => e = .returned (.agg #[.int .u64 (val64 v : Nat)]) ∧ Ext w w' No := by
  have lo : bo < w.heap.size := World.block_lt_of_cell? _ _ hco
  have E := Lib.hid (mul64_one hv)
  have W1 : W64 1 := W64.one
  have hc2 : ∀ o1 o2, ((w.alloc o1).alloc o2).cell? ⟨bo, oo, none⟩ = some (.int .u64 (v : Int)) := fun o1 o2 => cell_alloc (cell_alloc hco o1) o2
  have hn1 : ∀ o2, ((w.alloc (.cells #[.int .u64 0] 44)).alloc o2).cell? ⟨w.heap.size, 0, none⟩ = some (.int .u64 0) := fun o2 => cell_alloc (blk_cell (blk_new _ _) 0) o2
  have hn1f : ∀ o2, ((w.alloc (.cells #[.int .u64 0] 44)).alloc o2).frozen? ⟨w.heap.size, 0, none⟩ = false := fun o2 => frz_alloc (by simp) (blk_frz (blk_new _ _) 0) o2
  have hn2 : ((w.alloc (.cells #[.int .u64 0] 44)).alloc (.cells #[.int .u64 1] 44)).cell? ⟨w.heap.size + 1, 0, none⟩ = some (.int .u64 1) := by
    simp
  have C2 := Lib.hid hc2; clear hc2
  have N1 := Lib.hid hn1; clear hn1
  have N1f := Lib.hid hn1f; clear hn1f
  have N2 := Lib.hid hn2; clear hn2
  go_enter Tryz.func151, Tryz.ntmps151
  go_wp2_with (go_at_call 106; refine (mul_fp64 (W64.ofP hv) W1 (N1.out _) (N1f.out _) (C2.out _ _) N2.out).mono ?_; rintro e w' ⟨rfl, hx⟩)
  have hb := hx.blkNo (blk_set (blk_alloc (blk_new w (.cells #[.int .u64 0] 44)) _) 0 _)
  have h0 : w'.cell? ⟨w.heap.size, 0, none⟩ = some (.int .u64 (val64 v : Nat)) := by rw [← E.out]; exact blk_cell hb 0
  refine bodyPost_ret (v := .agg #[.int .u64 (val64 v : Nat)]) (by simp [results, Tryz.results151, go_sem, h0]) rfl ⟨rfl, ?_⟩
  exact ((((Ext.refl w No).alloc _).alloc _).set (.inl (Nat.le_refl _)) _).transNo hx

theorem addAssign64 {bo oo ba oa x y : Nat} {w : World} (hx : x < P64) (hy : y < P64) (hco : w.cell? ⟨bo, oo, none⟩ = some (.int .u64 (x : Int))) (hfo : w.frozen? ⟨bo, oo, none⟩ = false)
    (hca : w.cell? ⟨ba, oa, none⟩ = some (.int .u64 (y : Int))) :
    Calls Tryz.prog 94 #[.pointer (some ⟨bo, oo, none⟩), .pointer (some ⟨ba, oa, none⟩)] w fun e w' =>
      e = .returned (.tuple #[]) ∧ Ext (w.setCell ⟨bo, oo, none⟩ (.int .u64 ((x + y) % P64 : Nat))) w' No := by
  have E := Lib.hid (add64_law hx hy)
  go_enter Tryz.func94, Tryz.ntmps94
  go_wp2_with (go_at_call 110; refine (add_fp64 (W64.ofP hx) (W64.ofP hy) hco hfo hco hca).mono ?_; rintro e w' ⟨rfl, hx⟩)
  go_end0
  exact ⟨rfl, by rw [← E.out]; exact hx⟩

theorem u8s_cell (l : List Nat) (i : Nat) (h : i < l.length) : (u8s l).toArray[i]? = some (.int .u8 (l.getD i 0 : Nat)) := by
  simp [u8s, List.getD, h]

theorem inRange64 {b : Nat} {w : World} {t : TypeId} (l : List Nat) (hl : l.length = 8) (hlt : ∀ x ∈ l, x < 256) (hb : w.heap[b]? = some (.cells (u8s l).toArray t (0, 0))) :
    Calls Tryz.prog 155 #[.pointer (some ⟨b, 0, none⟩)] w fun e w' =>
      e = .returned (.tuple #[.agg #[.int .u64 (leL l : Nat)], .bool (decide (leL l < P64))]) ∧ Ext w w' No := by
  have hc : ∀ i, i < 8 → ∀ o, (w.alloc o).cell? ⟨b, 0 + i, none⟩ = some (.int .u8 (l.getD i 0 : Nat)) := by
    intro i hi o
    have h1 := blk_cell hb i
    rw [u8s_cell l i (by omega)] at h1
    rw [Nat.zero_add]
    exact cell_alloc h1 o
  have hd : decide ((leL l : Int) < 18446744069414584321) = decide (leL l < P64) := by
    simp only [P64]; exact decide_eq_decide.2 (by omega)
  have Hb := Lib.hid hb; clear hb
  have Hl := Lib.hid hl; clear hl
  have Hlt := Lib.hid hlt; clear hlt
  have Hc := Lib.hid hc; clear hc
  have Hd := Lib.hid hd; clear hd
  go_enter Tryz.func155, Tryz.ntmps155
  go_wp2_with (go_at_call 156; refine (le64 l Hl.out Hlt.out (by decide) (by decide) (fun i hi => Hc.out i hi _)).mono ?_; rintro e w' ⟨rfl, rfl⟩)
  refine bodyPost_ret (v := .tuple #[.agg #[.int .u64 (leL l : Nat)], .bool (decide (leL l < P64))]) (by simp [results, Tryz.results155, go_sem, Hd.out]) rfl ⟨rfl, ?_⟩
  exact (Ext.refl w No).alloc _
end Go.Proofs.YtlmmdldjfpdcfaaGreatDoor

/-
  Lists of numbers of either field as cells, and as bytes: words that the walks over vectors share.
-/
namespace Go.Proofs.YtlmmdldjfpdcfaaGreatDoor
open Go.RowKit

/-- The i-th number of sz bytes. -/
def chunk (sz : Nat) (l : List Nat) (i : Nat) : Nat := leL ((l.drop (i * sz)).take sz)
def chunks (sz n : Nat) (l : List Nat) : List Nat := (List.range n).map (chunk sz l)
theorem chunks_snoc (sz n : Nat) (l : List Nat) : chunks sz (n + 1) l = chunks sz n l ++ [chunk sz l n] := by simp [chunks, List.range_succ]
theorem chunks_len (sz n : Nat) (l : List Nat) : (chunks sz n l).length = n := by simp [chunks]
/-- There are n numbers, all below p. -/
def okN (sz p n : Nat) (l : List Nat) : Bool := decide (n * sz ≤ l.length) && (List.range n).all fun i => decide (chunk sz l i < p)
theorem okN_iff (sz p n : Nat) (l : List Nat) : okN sz p n l = true ↔ n * sz ≤ l.length ∧ ∀ i, i < n → chunk sz l i < p := by simp [okN]
theorem okN_false_short {sz p n k : Nat} {l : List Nat} (hk : k < n) (h : l.length - k * sz < sz) : okN sz p n l = false := by
  rw [Bool.eq_false_iff]
  intro h'
  have h1 := ((okN_iff _ _ _ _).1 h').1
  have h2 : (k + 1) * sz ≤ n * sz := Nat.mul_le_mul_right _ hk
  rw [Nat.add_mul] at h2
  omega
theorem okN_false_big {sz p n k : Nat} {l : List Nat} (hk : k < n) (h : ¬ chunk sz l k < p) : okN sz p n l = false := by
  rw [Bool.eq_false_iff]
  intro h'
  exact h (((okN_iff _ _ _ _).1 h').2 k hk)

theorem putL_at (cs : Array Value) (o : Nat) (l : List Value) (h : o + l.length ≤ cs.size) : putL cs o l = (cs.toList.take o ++ l ++ cs.toList.drop (o + l.length)).toArray := by
  induction l generalizing cs o with
  | nil => simp [putL]
  | cons x l ih =>
    simp only [List.length_cons] at h
    rw [putL, ih _ _ (by simp; omega)]
    congr 1
    have h1 : o < cs.toList.length := by simp; omega
    simp only [Array.toList_setIfInBounds]
    rw [List.take_set, List.take_add_one, List.drop_set_of_lt (by omega)]
    simp only [List.length_cons]
    rw [List.getElem?_eq_getElem h1, show o + 1 + l.length = o + (l.length + 1) from by omega]
    simp
    have hl : cs.toList.length = cs.size := Array.length_toList
    rw [List.set_append_right _ _ (by simp; omega)]
    rw [show o - (List.take o cs.toList).length = 0 from by rw [List.length_take]; omega]
    simp
theorem putL_all (cs : Array Value) (l : List Value) (h : l.length = cs.size) : putL cs 0 l = l.toArray := by
  rw [putL_at cs 0 l (by omega)]
  simp [h]

def enc64 (v : Nat) : List Value := [.int .u64 (v : Nat)]
def vecC (enc : Nat → List Value) (vs : List Nat) : List Value := vs.flatMap enc
theorem vecC_snoc (enc : Nat → List Value) (vs : List Nat) (v : Nat) : vecC enc (vs ++ [v]) = vecC enc vs ++ enc v := by simp [vecC]
theorem vecC_len64 (vs : List Nat) : (vecC enc64 vs).length = vs.length := by
  induction vs with
  | nil => rfl
  | cons v vs ih => rw [show vecC enc64 (v :: vs) = enc64 v ++ vecC enc64 vs from rfl, List.length_append, ih, List.length_cons, Nat.add_comm]; rfl

/-- Where the reading of a vector stands behind k numbers. -/
def UnmRel (w : World) (sb vb b o m c sz p : Nat) (enc : Nat → List Value) (tom : Nat → Nat) (cz : Array Value) (vt : TypeId) (l : List Nat) (k : Nat) (wr : World) : Prop :=
  k * sz ≤ m ∧ (∀ i, i < k → chunk sz l i < p) ∧ Ext w wr (fun q => q = sb ∨ q = vb) ∧
    (∃ a, wr.heap[sb]? = some (.cells #[.slice a (m - k * sz) (c - k * sz)] 219 (0, 0)) ∧ (m - k * sz ≠ 0 → a = some ⟨b, o + k * sz, none⟩)) ∧
    wr.heap[vb]? = some (.cells (putL cz 0 (vecC enc ((chunks sz k l).map tom))) vt (0, 0))
theorem chunks_map_snoc (sz n : Nat) (l : List Nat) (f : Nat → Nat) : (chunks sz (n + 1) l).map f = (chunks sz n l).map f ++ [f (chunk sz l n)] := by rw [chunks_snoc]; simp
end Go.Proofs.YtlmmdldjfpdcfaaGreatDoor

/-
  fp64's numbers: one written to the builder (Fp.Marshal).
-/
namespace Go.Proofs.YtlmmdldjfpdcfaaGreatDoor
open Go.RowKit

theorem putL_append (cs : Array Value) (o : Nat) (l l' : List Value) : putL cs o (l ++ l') = putL (putL cs o l) (o + l.length) l' := by
  induction l generalizing cs o with
  | nil => rfl
  | cons x l ih => simp only [List.cons_append, putL, ih, List.length_cons]; rw [Nat.add_assoc, Nat.add_comm 1]
abbrev Z8 : Array Value := #[.int .u8 0, .int .u8 0, .int .u8 0, .int .u8 0, .int .u8 0, .int .u8 0, .int .u8 0, .int .u8 0]

theorem Bld.ext {base : Nat} {w w' : World} {bb g cap : Nat} {done : List Nat} {S : Nat → Prop} (h : Bld base w bb g cap done) (hx : Ext w w' S) (hb : ¬ S bb) (hg : ¬ S g) : Bld base w' bb g cap done := by
  refine ⟨hx.blk h.1 hb, h.2.1, ?_⟩
  rcases h.2.2 with h2 | ⟨g', cap', cur, hv, hbg, hh, r⟩
  · exact .inl h2
  · simp only [Value.slice.injEq, Option.some.injEq, Addr.mk.injEq, and_true, true_and] at hv
    obtain ⟨rfl, rfl⟩ := hv
    exact .inr ⟨g, cap, cur, rfl, hbg, hx.blk hh hg, r⟩
theorem Bld.lt {base : Nat} {w : World} {bb g cap : Nat} {done : List Nat} (h : Bld base w bb g cap done) : g < w.heap.size := (h.2.lt g rfl).2

theorem add_bytes' {base bb g cap : Nat} {done : List Nat} {w : World} (hB : Bld base w bb g cap done) (hne : bb ≠ g) {vb vo c n : Nat} (l : List Nat) (hl : l.length = n)
    (hcell : ∀ i, i < n → w.cell? ⟨vb, vo + i, none⟩ = some (.int .u8 (l.getD i 0 : Nat))) (hroom : done.length + n ≤ cap) (hcap : cap ≤ 100000) :
    Calls Tryz.prog 153 #[.pointer (some ⟨bb, 0, none⟩), .slice (some ⟨vb, vo, none⟩) n c] w fun e w' =>
      e = .returned (.tuple #[]) ∧ Ext w w' (fun k => k = bb ∨ k = g) ∧ Bld base w' bb g cap (done ++ l) := by
  subst hl; exact add_bytes hB hne l hcell hroom hcap

theorem marshal64 {base zb zo v bb g cap : Nat} {done : List Nat} {w : World} (hv : v < P64) (hz : w.cell? ⟨zb, zo, none⟩ = some (.int .u64 (v : Nat)))
    (hB : Bld base w bb g cap done) (hne : bb ≠ g) (hroom : done.length + 8 ≤ cap) (hcap : cap ≤ 100000) :
    Calls Tryz.prog 149 #[.pointer (some ⟨zb, zo, none⟩), .pointer (some ⟨bb, 0, none⟩)] w fun e w' =>
      e = .returned .nilIface ∧ Ext w w' (fun k => k = bb ∨ k = g) ∧ Bld base w' bb g cap (done ++ bytesL 8 (val64 v)) := by
  have lb := lt_of_blk hB.1
  have lg := hB.lt
  have HB := Lib.hid hB; clear hB
  have hi : ∀ w, (Instr.index 44 (.agg #[.int .u64 (val64 v : Nat)]) (.int .i64 0)).run Tryz.prog w = .ok (.int .u64 (val64 v : Nat)) w := fun _ => by kernel_rfl
  go_enter Tryz.func149, Tryz.ntmps149
  go_wp2_with (go_at_call 151; refine (fromMont64 hv (cell_alloc hz _)).mono ?_; rintro e w1 ⟨rfl, hx1⟩)
  go_loopw [10] (fun i wr => ∃ k : Nat, k ≤ 1 ∧ i = .int .i64 k ∧ Ext w1 wr (fun q => q = w.heap.size) ∧ Hid (wr.heap[w.heap.size]? = some (.cells (putL Z8 0 (u8s (bytesL (8 * k) (val64 v)))) 314 (0, 0)))) (fun i _ => 1 - (intOf i).toNat)
  case atStart => exact ⟨0, by omega, rfl, Ext.refl _ _, hx1.blkNo (blk_new _ _)⟩
  case round =>
    obtain ⟨k, hk, rfl, hx, hX⟩ := hrel
    by_cases h1 : k = 1
    · subst h1
      have hl : (bytesL 8 (val64 v)).length = 8 := bytesL_len _ _
      have hX' : wr.heap[w.heap.size]? = some (.cells (u8s (bytesL 8 (val64 v))).toArray 314 (0, 0)) := by
        have h := hX.out
        rw [putL_all _ _ (by simp [u8s_len, bytesL_len])] at h
        exact h
      have hcl : ∀ i, i < 8 → wr.cell? ⟨w.heap.size, 0 + i, none⟩ = some (.int .u8 ((bytesL 8 (val64 v)).getD i 0 : Nat)) := by
        intro i hi
        rw [Nat.zero_add, blk_cell hX' i, u8s_cell _ _ (by omega)]
      have hB' : Bld base wr bb g cap done := ((HB.out.ext ((Ext.refl w No).alloc _) (fun f => f) (fun f => f)).ext hx1 (fun f => f) (fun f => f)).ext hx (Nat.ne_of_lt lb) (Nat.ne_of_lt lg)
      clear hX'
      have HL := Lib.hid hl; clear hl
      have HCL := Lib.hid hcl; clear hcl
      have HB' := Lib.hid hB'; clear hB'
      go_wp2_with (go_at_call 153; refine (add_bytes' HB'.out hne (bytesL 8 (val64 v)) HL.out HCL.out hroom hcap).mono ?_; rintro e w2 ⟨rfl, hx2, hB2⟩)
      go_ret
      have e1 : Ext w wr (fun k => k = bb ∨ k = g) := (((Ext.refl w _).alloc _).transNo hx1).trans hx (fun i hi h => absurd h (Nat.ne_of_lt hi))
      exact ⟨rfl, e1.trans hx2 (fun _ _ h => h), hB2⟩
    · obtain rfl : k = 0 := by omega
      have hX0 : wr.heap[w.heap.size]? = some (.cells Z8 314 (0, 0)) := hX.out
      have HX0 := Lib.hid hX0; clear hX0
      go_wp2_with (go_at_call 152; refine (put64 (v := val64 v) (by decide) (by decide) HX0.out (by decide)).mono ?_; rintro e w2 ⟨rfl, hx2, hb2⟩; have HB2 := Lib.hid hb2; clear hb2)
      exact ⟨⟨1, by omega, rfl, hx.trans hx2 (fun _ _ h => h), HB2⟩, by simp [intOf]⟩
end Go.Proofs.YtlmmdldjfpdcfaaGreatDoor
