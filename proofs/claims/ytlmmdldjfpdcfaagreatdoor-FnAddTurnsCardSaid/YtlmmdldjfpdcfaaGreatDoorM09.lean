/-
  The shares over fp128: read from bytes; an aggregate written as bytes.
-/
import Derived.Test.YtlmmdldjfpdcfaaGreatDoorM08
import Derived.OwnWalk
import Derived.Deep.MidRow
import Derived.Laws.ResultCell
namespace Go.Proofs.YtlmmdldjfpdcfaaGreatDoor
open Go.RowKit

theorem osUnmBin128 {ob vb n vc : Nat} {w : World} {cz : Array Value} {vt : TypeId} {v : Value} (l : List Nat) (ho : w.cell? ⟨ob, 0, none⟩ = some (.slice (some ⟨vb, 0, none⟩) n vc))
    (hv : w.heap[vb]? = some (.cells cz vt (0, 0))) (hcz : cz.size = 2 * n) (hn0 : 0 < n) (hn : n ≤ 1000) (hB : IsB w v l) (hd : ∀ b o m c, v = .slice (some ⟨b, o, none⟩) m c → m ≠ 0 → b ≠ vb) :
    Calls Tryz.prog 36 #[.pointer (some ⟨ob, 0, none⟩), v] w fun e w' =>
      (good 16 P128 n l → e = .returned .nilIface ∧ Ext w w' (fun q => q = vb) ∧ w'.heap[vb]? = some (.cells (vecC enc128 ((chunks 16 n l).map tom128)).toArray vt (0, 0))) ∧
        (¬ good 16 P128 n l → (∃ t p, e = .returned (.iface t p)) ∧ Ext w w' (fun q => q = vb)) := by
  have K := convUnm128 (vc := vc) l ho hv hcz hn0 hn hB hd
  obtain ⟨-, a, c, rfl, -⟩ := hB
  clear ho hv hcz hd
  by_cases hg : good 16 P128 n l
  · have K2 := K.mono (fun e w' h => h.1 hg)
    have HG := Lib.hid hg; clear hg K
    go_enter Tryz.func36, Tryz.ntmps36
    go_wp2_with (go_at_call 57; refine K2.mono ?_; rintro e w' ⟨rfl, h1, h2⟩; have H2 := Lib.hid h2; clear h2)
    go_ret
    exact ⟨fun _ => ⟨rfl, h1, H2.out⟩, fun h => (h HG.out).elim⟩
  · have K2 := K.mono (fun e w' h => h.2 hg)
    have HG := Lib.hid hg; clear hg K
    go_enter Tryz.func36, Tryz.ntmps36
    go_wp2_with (go_at_call 57; refine K2.mono ?_; rintro e w' ⟨⟨t, p, rfl⟩, h1⟩)
    go_ret
    exact ⟨fun h => (HG.out h).elim, fun _ => ⟨⟨t, p, rfl⟩, h1⟩⟩

theorem size128 {a : Option Addr} {n c : Nat} {w : World} (hn : n ≤ 1000) : Calls Tryz.prog 161 #[.slice a n c] w fun e w' => e = .returned (.int .u64 ((n * 16 : Nat) : Int)) ∧ w = w' := by
  go_enter Tryz.func161, Tryz.ntmps161
  go_wp2
  go_ret
  exact ⟨by show Ending.returned (.int .u64 (16 * (n : Int))) = _; congr 2; omega, rfl⟩

theorem addVec128 {base vb n vc bb g cap : Nat} {done vs : List Nat} {w : World} {vt : TypeId} (hlen : vs.length = n) (hlt : ∀ i, i < n → vs.getD i 0 < P128) (hv : w.heap[vb]? = some (.cells (vecC enc128 vs).toArray vt (0, 0)))
    (hB : Bld base w bb g cap done) (hne : bb ≠ g) (hvb : vb ≠ bb) (hvg : vb ≠ g) (hn : n ≤ 1000) (hroom : done.length + n * 16 ≤ cap) (hcap : cap ≤ 100000) :
    Calls Tryz.prog 74 #[.pointer (some ⟨bb, 0, none⟩), .iface 50 (.slice (some ⟨vb, 0, none⟩) n vc)] w fun e w' =>
      e = .returned (.tuple #[]) ∧ Ext w w' (fun k => k = bb ∨ k = g) ∧ Bld base w' bb g cap (done ++ flat out128 vs) := by
  have K := vecMar128 (vc := vc) hlen hlt hv hB hne hvb hvg hn hroom hcap
  clear hlen hlt hv hB hroom
  go_enter Tryz.func74, Tryz.ntmps74
  go_wp2_with (go_at_call 160; refine K.mono ?_; rintro e w' ⟨rfl, h1, h2⟩; have H2 := Lib.hid h2; clear h2)
  go_end0
  exact ⟨rfl, h1, H2.out⟩

theorem aggMar128 {base gb vb n vc bb g cap : Nat} {done vs : List Nat} {w : World} {vt : TypeId} (hg : w.cell? ⟨gb, 0, none⟩ = some (.slice (some ⟨vb, 0, none⟩) n vc)) (hlen : vs.length = n) (hlt : ∀ i, i < n → vs.getD i 0 < P128) (hv : w.heap[vb]? = some (.cells (vecC enc128 vs).toArray vt (0, 0)))
    (hB : Bld base w bb g cap done) (hne : bb ≠ g) (hvb : vb ≠ bb) (hvg : vb ≠ g) (hn : n ≤ 1000) (hroom : done.length + n * 16 ≤ cap) (hcap : cap ≤ 100000) :
    Calls Tryz.prog 235 #[.pointer (some ⟨gb, 0, none⟩), .pointer (some ⟨bb, 0, none⟩)] w fun e w' =>
      e = .returned .nilIface ∧ Ext w w' (fun k => k = bb ∨ k = g) ∧ Bld base w' bb g cap (done ++ flat out128 vs) := by
  have K := addVec128 (vc := vc) hlen hlt hv hB hne hvb hvg hn hroom hcap
  clear hlen hlt hv hB hroom
  go_enter Tryz.func235, Tryz.ntmps235
  go_wp2_with (go_at_call 74; refine K.mono ?_; rintro e w' ⟨rfl, h1, h2⟩; have H2 := Lib.hid h2; clear h2)
  go_ret
  exact ⟨rfl, h1, H2.out⟩

theorem addAgg128 {base gb vb n vc bb g cap : Nat} {done vs : List Nat} {w : World} {vt : TypeId} (hg : w.cell? ⟨gb, 0, none⟩ = some (.slice (some ⟨vb, 0, none⟩) n vc)) (hlen : vs.length = n) (hlt : ∀ i, i < n → vs.getD i 0 < P128) (hv : w.heap[vb]? = some (.cells (vecC enc128 vs).toArray vt (0, 0)))
    (hB : Bld base w bb g cap done) (hne : bb ≠ g) (hvb : vb ≠ bb) (hvg : vb ≠ g) (hn : n ≤ 1000) (hroom : done.length + n * 16 ≤ cap) (hcap : cap ≤ 100000) :
    Calls Tryz.prog 74 #[.pointer (some ⟨bb, 0, none⟩), .iface 106 (.pointer (some ⟨gb, 0, none⟩))] w fun e w' =>
      e = .returned (.tuple #[]) ∧ Ext w w' (fun k => k = bb ∨ k = g) ∧ Bld base w' bb g cap (done ++ flat out128 vs) := by
  have K := aggMar128 (vc := vc) hg hlen hlt hv hB hne hvb hvg hn hroom hcap
  clear hg hlen hlt hv hB hroom
  go_enter Tryz.func74, Tryz.ntmps74
  go_wp2_with (go_at_call 235; refine K.mono ?_; rintro e w' ⟨rfl, h1, h2⟩; have H2 := Lib.hid h2; clear h2)
  go_end0
  exact ⟨rfl, h1, H2.out⟩

theorem marLen128 {gb vb n vc cap : Nat} {vs : List Nat} {w : World} {vt : TypeId} (hg : w.cell? ⟨gb, 0, none⟩ = some (.slice (some ⟨vb, 0, none⟩) n vc)) (hlen : vs.length = n) (hlt : ∀ i, i < n → vs.getD i 0 < P128) (hv : w.heap[vb]? = some (.cells (vecC enc128 vs).toArray vt (0, 0))) (hn : n ≤ 1000) (hcap : cap = n * 16) :
    Calls Tryz.prog 58 #[.iface 106 (.pointer (some ⟨gb, 0, none⟩)), .int .u64 (cap : Nat)] w fun e w' =>
      ∃ bb, e = .returned (.tuple #[.slice (some ⟨w.heap.size, 0, none⟩) cap cap, .nilIface]) ∧ Ext w w' No ∧ Bld w.heap.size w' bb w.heap.size cap (flat out128 vs) := by
  have lg := World.block_lt_of_cell? _ _ hg
  have lv := lt_of_blk hv
  obtain ⟨i, hi, hz, hs, hb⟩ := of_info info5
  obtain ⟨w1, hr, hown, hgr⟩ := run_make_own (P := Tryz.prog) w w.heap.size 23 5 i _ 1 Tryz.underlying23 hi hz hs .i64 .u64 cap (by rw [hb]; omega) (by simp only [maxLen]; omega) (Nat.le_refl _)
  have hsz : w.heap.size < w1.heap.size := by
    rcases hown.2 with ⟨h, _⟩ | ⟨g', cap', cur, hv', -, hh, -⟩
    · simp at h
    · simp only [Value.slice.injEq, Option.some.injEq, Addr.mk.injEq, and_true, true_and] at hv'
      rw [← hv'.1] at hh
      exact lt_of_blk hh
  have e1 : Ext w w1 No := (Ext.refl w No).grown hgr (fun _ h => by simp at h)
  have hB : Bld w.heap.size (w1.alloc (.cells #[.nilIface, .slice (some ⟨w.heap.size, 0, none⟩) 0 cap, .bool true] 265)) w1.heap.size w.heap.size cap [] := ⟨blk_new _ _, ownsRow_alloc hown _⟩
  have K := addAgg128 (vc := vc) (cell_alloc (e1.cellNo hg) _) hlen hlt (blk_alloc (e1.blkNo hv) _) hB (by omega) (by omega) (by omega) hn (by simp; omega) (by omega)
  clear hg hlt hv hB hown hi hz hs hb hgr
  have hfl : (flat out128 vs).length = cap := by rw [flat_len _ 16 out128_len, hlen, hcap]
  have HF := Lib.hid hfl
  clear hlen hcap hfl
  go_enter Tryz.func58, Tryz.ntmps58
  go_wp2_with (first
    | (go_at_call 73; refine builder.mono ?_; rintro e w' ⟨rfl, rfl⟩)
    | (go_at_call 74; refine K.mono ?_; rintro e w2 ⟨rfl, h1, h2⟩; have H2 := Lib.hid h2; clear h2)
    | (go_at_call 75; refine (bldBytes H2.out).mono ?_; rintro e w' ⟨rfl, rfl⟩))
  go_ret2
  refine ⟨_, ?_, (e1.alloc _).trans h1 (fun i hi h => by rcases h with rfl | rfl <;> omega), H2.out⟩
  have h := HF.out
  simp [h]
end Go.Proofs.YtlmmdldjfpdcfaaGreatDoor

/-
  The shares over fp128: an aggregate as bytes (MarshalBinary).
-/
namespace Go.Proofs.YtlmmdldjfpdcfaaGreatDoor
open Go.RowKit

theorem aggBin128 {gb vb n vc : Nat} {vs : List Nat} {w : World} {vt : TypeId} (hg : w.cell? ⟨gb, 0, none⟩ = some (.slice (some ⟨vb, 0, none⟩) n vc)) (hlen : vs.length = n) (hlt : ∀ i, i < n → vs.getD i 0 < P128) (hv : w.heap[vb]? = some (.cells (vecC enc128 vs).toArray vt (0, 0))) (hn : n ≤ 1000) :
    Calls Tryz.prog 37 #[.pointer (some ⟨gb, 0, none⟩)] w fun e w' =>
      e = .returned (.tuple #[.slice (some ⟨w.heap.size, 0, none⟩) (n * 16) (n * 16), .nilIface]) ∧ Ext w w' No ∧
        w'.ownsRow w.heap.size 5 1 (.slice (some ⟨w.heap.size, 0, none⟩) (n * 16) (n * 16)) (n * 16) (u8s (flat out128 vs)) := by
  have hm : ∃ cap, cap = n * 16 := ⟨_, rfl⟩
  obtain ⟨cap, hcap⟩ := hm
  have K := marLen128 (vc := vc) hg hlen hlt hv hn hcap
  have hfl : (flat out128 vs).length = cap := by rw [flat_len _ 16 out128_len, hlen, hcap]
  have S := size128 (a := some ⟨vb, 0, none⟩) (n := n) (c := vc) (w := w) hn
  rw [← hcap] at S ⊢
  have HF := Lib.hid hfl
  clear hlt hv hcap hlen hfl
  go_enter Tryz.func37, Tryz.ntmps37
  go_wp2_with (first
    | (go_at_call 161; refine S.mono ?_; rintro e w' ⟨rfl, rfl⟩)
    | (go_at_call 58; refine K.mono ?_; rintro e w2 ⟨bb, rfl, h1, h2⟩; have H2 := Lib.hid h2; clear h2))
  go_ret2
  have h := H2.out.2
  rw [HF.out] at h
  exact ⟨rfl, h1, h⟩
end Go.Proofs.YtlmmdldjfpdcfaaGreatDoor

/-
  A row of bytes that grows within its room; the appends that NewXof makes; a new sponge.
-/
namespace Go.Proofs.YtlmmdldjfpdcfaaGreatDoor
open Go.RowKit

/-- A row of cap bytes at block g. -/
def Row (g cap : Nat) (w : World) : Prop := ∃ cur : Array Value, w.heap[g]? = some (.cells cur 5 (0, 0)) ∧ cur.size = cap
theorem Row.ext {g cap : Nat} {w w' : World} {S : Nat → Prop} (h : Row g cap w) (hx : Ext w w' S) (hn : ¬ S g) : Row g cap w' := by
  obtain ⟨cur, hb, hs⟩ := h
  exact ⟨cur, hx.blk hb hn, hs⟩
theorem Row.extNo {g cap : Nat} {w w' : World} (h : Row g cap w) (hx : Ext w w' No) : Row g cap w' := h.ext hx (fun f => f)
theorem Row.lt {g cap : Nat} {w : World} (h : Row g cap w) : g < w.heap.size := by obtain ⟨cur, hb, -⟩ := h; exact lt_of_blk hb
theorem Row.alloc {g cap : Nat} {w : World} (h : Row g cap w) (o : Obj) : Row g cap (w.alloc o) := h.extNo ((Ext.refl w No).alloc o)

theorem append_row {g n cap : Nat} {w : World} (ty : TypeId) (hR : Row g cap w) (ao : Option Addr) (m c : Nat) (news : List Value) (hl : news.length = m) (hnone : ao = none → m = 0 ∧ c = 0)
    (hnews : ∀ ad, ao = some ad → ∀ j u, news[j]? = some u → w.cell? (ad.add j) = some u) (h1 : ∀ u ∈ news, u.oneCell' = true) (hroom : n + m ≤ cap) :
    ∃ w', (Builtin.append_ #[23, 23] ty #[.slice (some ⟨g, 0, none⟩) n cap, .slice ao m c]).run Tryz.prog w = .ok (.slice (some ⟨g, 0, none⟩) (n + m) cap) w' ∧ Ext w w' (fun k => k = g) ∧ Row g cap w' := by
  obtain ⟨cur, hb, hs⟩ := hR
  obtain ⟨i, hi, hz, hs1, hb1⟩ := of_info info5
  cases ao with
  | none =>
    obtain ⟨rfl, rfl⟩ := hnone rfl
    have hr : ¬ cap < n := by omega
    exact ⟨w, by simp [Builtin.append_, run_underlying Tryz.underlying23, sizeOf, typeInfo, hi, Builtin.lenOf, Builtin.firstCells, storeCells, hr], Ext.refl _ _, cur, hb, hs⟩
  | some a =>
    have h := run_append_room w 23 ty 5 i Tryz.underlying23 hi g n cap cur hb a m c news (by rw [hs1, hl, Nat.mul_one]) (hnews a rfl) h1 hroom (by rw [hs1, hl, hs]; omega)
    refine ⟨_, h, Ext.setRow (S := fun k => k = g) (Ext.refl w _) (.inr rfl) _, ?_⟩
    have hbs : ∀ cs, (w.setRow g cs).heap[g]? = some (.cells cs 5 (0, 0)) := by
      intro cs
      simp only [World.setRow, Array.getElem?_modify, if_true, hb, Option.map_some]
    refine ⟨_, hbs _, ?_⟩
    simp only [List.size_toArray, List.length_append, List.length_take, List.length_drop, Array.length_toList, hs1, hl, hs]
    omega

theorem wpList_append_row {ops : Array Oper} {rest : List Oper} {o : Oper} {a : Act} {Q : Exit → Act → World → Prop} (w : World)
    (hg : o.guard = none) (s x : Operand) (hop : o.op = Op.call { callee := Callee.builtin Builtin.append, args := #[s, x], argTypes := #[23, 23] })
    (g n cap : Nat) (hs : a.eval s = .slice (some ⟨g, 0, none⟩) n cap) (hR : Row g cap w) (ao : Option Addr) (m c : Nat) (hx : a.eval x = .slice ao m c) (news : List Value) (hl : news.length = m)
    (hnone : ao = none → m = 0 ∧ c = 0) (hnews : ∀ ad, ao = some ad → ∀ j u, news[j]? = some u → w.cell? (ad.add j) = some u) (h1 : ∀ u ∈ news, u.oneCell' = true) (hroom : n + m ≤ cap)
    (hK : ∀ w', Ext w w' (fun k => k = g) → Row g cap w' → wpList Tryz.prog ops Q rest (a.put o.dst (.slice (some ⟨g, 0, none⟩) (n + m) cap)) w') :
    wpList Tryz.prog ops Q (o :: rest) a w := by
  refine wpList_plain hg fun K hK' => ?_
  obtain ⟨w', hrun, r1, r2⟩ := append_row (n := n) o.type hR ao m c news hl hnone hnews h1 hroom
  unfold Oper.wp
  simp [execOp, hop, resolve, invoke, builtin, hs, hx, hrun, Result.andThen]
  exact hK' _ _ (hK w' r1 r2)

/-- A guard for an arm: the operation that writes slot d. -/
theorem at_dst (d : Nat) {P : Program} {ops : Array Oper} {Q : Exit → Act → World → Prop} {op : Op} {ty : TypeId} {pos : String} {after : Array Edge} {g : Option (Nat × Bool)} {rest : List Oper} {a : Act} {w : World}
    (h : wpList P ops Q ({ dst := some d, op := op, type := ty, pos := pos, after := after, guard := g } :: rest) a w) : wpList P ops Q ({ dst := some d, op := op, type := ty, pos := pos, after := after, guard := g } :: rest) a w := h
/-- A guard for an arm: the store through slot x. -/
theorem at_store (x : Nat) {P : Program} {ops : Array Oper} {Q : Exit → Act → World → Prop} {t : TypeId} {y : Operand} {ty : TypeId} {pos : String} {after : Array Edge} {g : Option (Nat × Bool)} {rest : List Oper} {a : Act} {w : World}
    (h : wpList P ops Q ({ dst := none, op := .store t (.tmp x) y, type := ty, pos := pos, after := after, guard := g } :: rest) a w) : wpList P ops Q ({ dst := none, op := .store t (.tmp x) y, type := ty, pos := pos, after := after, guard := g } :: rest) a w := h

theorem add0 (b o j : Nat) : (⟨b, o, none⟩ : Addr).add j = ⟨b, o + j, none⟩ := by unfold Addr.add; split <;> simp_all
theorem src_new (w : World) (cs : List Value) (t : TypeId) (ad : Addr) (h : some (⟨w.heap.size, 0, none⟩ : Addr) = some ad) (j : Nat) (u : Value) (hu : cs[j]? = some u) : (w.alloc (.cells cs.toArray t)).cell? (ad.add j) = some u := by
  obtain rfl := Option.some.inj h
  rw [add0, Nat.zero_add, blk_cell (blk_new _ _)]
  simpa using hu
theorem no_none {a : Addr} {m c : Nat} : (some a : Option Addr) = none → m = 0 ∧ c = 0 := fun h => by simp at h
end Go.Proofs.YtlmmdldjfpdcfaaGreatDoor

/-
  Blocks of many cells, by value: what a store and a load of many cells does, no cell spelt out.
-/
namespace Go.Proofs.YtlmmdldjfpdcfaaGreatDoor
open Go.RowKit

/-- A block of N cells, each of one place. -/
def Big (b : Nat) (t : TypeId) (N : Nat) (w : World) : Prop := ∃ cur : Array Value, w.heap[b]? = some (.cells cur t (0, 0)) ∧ cur.size = N ∧ cur.all (·.oneCell') = true
theorem Big.ext {b t N : Nat} {w w' : World} {S : Nat → Prop} (h : Big b t N w) (hx : Ext w w' S) (hn : ¬ S b) : Big b t N w' := by
  obtain ⟨cur, hb, hs⟩ := h
  exact ⟨cur, hx.blk hb hn, hs⟩
theorem Big.extNo {b t N : Nat} {w w' : World} (h : Big b t N w) (hx : Ext w w' No) : Big b t N w' := h.ext hx (fun f => f)
theorem Big.lt {b t N : Nat} {w : World} (h : Big b t N w) : b < w.heap.size := by obtain ⟨cur, hb, -⟩ := h; exact lt_of_blk hb
theorem Big.alloc {b t N : Nat} {w : World} (h : Big b t N w) (o : Obj) : Big b t N (w.alloc o) := h.extNo ((Ext.refl w No).alloc o)
theorem Big.frz {b t N : Nat} {w : World} (h : Big b t N w) (i : Nat) : w.frozen? ⟨b, i, none⟩ = false := by obtain ⟨cur, hb, -⟩ := h; exact blk_frz hb i
theorem Big.cell {b t N : Nat} {w : World} (h : Big b t N w) (i : Nat) (hi : i < N) : ∃ v, w.cell? ⟨b, i, none⟩ = some v ∧ v.oneCell' = true := by
  obtain ⟨cur, hb, hs, ha⟩ := h
  refine ⟨cur[i], by rw [blk_cell hb, Array.getElem?_eq_getElem], ?_⟩
  exact (Array.all_eq_true.1 ha) i (by omega)
theorem Big.set {b t N : Nat} {w : World} (h : Big b t N w) (i : Nat) {v : Value} (hv : v.oneCell' = true) : Big b t N (w.setCell ⟨b, i, none⟩ v) := by
  obtain ⟨cur, hb, hs, ha⟩ := h
  refine ⟨_, blk_set hb i v, by simpa using hs, ?_⟩
  rw [Array.all_eq_true] at ha ⊢
  intro j hj
  rw [Array.getElem_setIfInBounds (by simpa using hj)]
  split
  · exact hv
  · exact ha j (by simpa using hj)
theorem Big.new {t N : Nat} (w : World) (cur : Array Value) (hs : cur.size = N) (ha : cur.all (·.oneCell') = true) : Big w.heap.size t N (w.alloc (.cells cur t)) := ⟨cur, blk_new _ _, hs, ha⟩

theorem setCells_facts {b t : Nat} : ∀ (vs : List Value) (o : Nat) (cur : Array Value) (w : World), w.heap[b]? = some (.cells cur t (0, 0)) →
    (w.setCells b o vs).heap[b]? = some (.cells (putL cur o vs) t (0, 0)) ∧ Ext w (w.setCells b o vs) (fun k => k = b) := by
  intro vs
  induction vs with
  | nil => intro o cur w h; exact ⟨h, Ext.refl _ _⟩
  | cons v vs ih =>
    intro o cur w h
    have h1 := ih (o + 1) _ _ (blk_set h o v)
    refine ⟨h1.1, ?_⟩
    exact (Ext.set (S := fun k => k = b) (Ext.refl w _) (.inr rfl) v).trans h1.2 (fun _ _ h => h)
theorem putL_get_in (cs : Array Value) (o : Nat) (l : List Value) (i : Nat) (h : o + l.length ≤ cs.size) (hi : i < l.length) : (putL cs o l)[o + i]? = l[i]? := by
  rw [putL_at cs o l h]
  simp only [List.getElem?_toArray]
  rw [List.append_assoc, List.getElem?_append_right (by rw [List.length_take]; omega), List.getElem?_append_left (by rw [List.length_take, Array.length_toList]; omega)]
  congr 1
  rw [List.length_take, Array.length_toList]; omega
theorem putL_get_lt (cs : Array Value) (o : Nat) (l : List Value) (i : Nat) (hi : i < o) : (putL cs o l)[i]? = cs[i]? := by
  induction l generalizing cs o with
  | nil => rfl
  | cons x l ih => rw [putL, ih _ _ (by omega), Array.getElem?_setIfInBounds_ne (by omega)]
theorem putL_one (cs : Array Value) (o : Nat) (l : List Value) (hc : cs.all (·.oneCell') = true) (hl : ∀ v ∈ l, v.oneCell' = true) : (putL cs o l).all (·.oneCell') = true := by
  induction l generalizing cs o with
  | nil => exact hc
  | cons x l ih =>
    refine ih _ _ ?_ (fun v hv => hl v (List.mem_cons_of_mem _ hv))
    rw [Array.all_eq_true] at hc ⊢
    intro j hj
    rw [Array.getElem_setIfInBounds (by simpa using hj)]
    split
    · exact hl x List.mem_cons_self
    · exact hc j (by simpa using hj)

theorem wpList_store_big {ops : Array Oper} {rest : List Oper} {op : Oper} {a : Act} {Q : Exit → Act → World → Prop} (w : World) (hgd : op.guard = none) (ty : TypeId) (x y : Operand) (ho : op.op = .store ty x y)
    (b o t N : Nat) (hx : a.eval x = .pointer (some ⟨b, o, none⟩)) (cells : Array Value) (hy : a.eval y = .agg cells) (hB : Big b t N w) (hfit : o + cells.size ≤ N)
    (hi : (Tryz.prog.info? ty).map (·.size) = some cells.size) (h1 : cells.all (·.oneCell') = true)
    (hK : ∀ w', Ext w w' (fun k => k = b) → Big b t N w' → (∀ j, j < cells.size → w'.cell? ⟨b, o + j, none⟩ = cells[j]?) → (∀ j, j < o ∨ o + cells.size ≤ j → w'.cell? ⟨b, j, none⟩ = w.cell? ⟨b, j, none⟩) →
      wpList Tryz.prog ops Q rest (a.put op.dst undef) w') : wpList Tryz.prog ops Q (op :: rest) a w := by
  obtain ⟨cur, hb, hs, ha⟩ := hB
  have hf := setCells_facts cells.toList o cur w hb
  refine wpList_store_mid hgd ty x y ho b o cells hx hy ?_ hi h1 (hK _ hf.2 ⟨_, hf.1, by rw [putL_size]; exact hs, putL_one _ _ _ ha (fun v hv => (Array.all_eq_true_iff_forall_mem.1 h1) v (by simpa using hv))⟩ ?_ ?_)
  · intro j hj
    refine ⟨?_, blk_frz hb _⟩
    rw [blk_cell hb, Array.getElem?_eq_getElem (by omega)]; rfl
  · intro j hj
    rw [blk_cell hf.1, putL_get_in _ _ _ _ (by simpa [hs] using hfit) (by simpa using hj)]
    simp
  · intro j hj
    rw [blk_cell hf.1, blk_cell hb]
    rcases hj with hj | hj
    · exact putL_get_lt _ _ _ _ hj
    · exact putL_get_ge _ _ _ _ (by simpa using hj)

theorem load_big {b o t N n : Nat} {w : World} {d : TypeDesc} (ty : TypeId) (hB : Big b t N w) (hfit : o + n ≤ N) (hu : Tryz.prog.underlying ty = some d) (hd : d.isRow = true) (hi : (Tryz.prog.info? ty).map (·.size) = some n) :
    ∃ cs : Array Value, (loadVar ty ⟨b, o, none⟩).run Tryz.prog w = .ok (.agg cs) w ∧ cs.size = n ∧ cs.all (·.oneCell') = true ∧ ∀ j, j < n → cs[j]? = w.cell? ⟨b, o + j, none⟩ := by
  obtain ⟨cur, hb, hs, ha⟩ := hB
  have hl : (cur.toList.drop o |>.take n).length = n := by simp; omega
  have hr : w.rangeAt b o (cur.toList.drop o |>.take n) := by
    intro j v hv
    have hj := (List.getElem?_eq_some_iff.1 hv).1
    rw [hl] at hj
    rw [List.getElem?_take_of_lt hj, List.getElem?_drop] at hv
    rw [blk_cell hb]
    simpa using hv
  refine ⟨_, run_loadVar_mid w b o ty _ d hr hu hd (by rw [hl]; exact hi), by simpa using hl, ?_, ?_⟩
  · rw [Array.all_eq_true_iff_forall_mem] at ha ⊢
    intro v hv
    exact ha v (Array.mem_def.2 (List.mem_of_mem_drop (List.mem_of_mem_take (by simpa using hv))))
  · intro j hj
    rw [blk_cell hb]
    simp only [List.getElem?_toArray]
    rw [List.getElem?_take_of_lt hj, List.getElem?_drop]
    simp

theorem wpList_load_big {ops : Array Oper} {rest : List Oper} {op : Oper} {a : Act} {Q : Exit → Act → World → Prop} (w : World) (hgd : op.guard = none) (ty : TypeId) (x : Operand) (ho : op.op = .load ty x)
    (b o t N n : Nat) {d : TypeDesc} (hx : a.eval x = .pointer (some ⟨b, o, none⟩)) (hB : Big b t N w) (hfit : o + n ≤ N) (hu : Tryz.prog.underlying ty = some d) (hd : d.isRow = true) (hi : (Tryz.prog.info? ty).map (·.size) = some n)
    (hK : ∀ cs : Array Value, cs.size = n → cs.all (·.oneCell') = true → (∀ j, j < n → cs[j]? = w.cell? ⟨b, o + j, none⟩) → wpList Tryz.prog ops Q rest (a.put op.dst (.agg cs)) w) : wpList Tryz.prog ops Q (op :: rest) a w := by
  obtain ⟨cs, hl, h1, h2, h3⟩ := load_big ty hB hfit hu hd hi
  refine wpList_plain hgd fun K hK' => ?_
  unfold Oper.wp execOp
  simp only [ho, hx, Instr.loadAt, Instr.sureAddr, Sem.run_bind, Sem.run_pure, Result.andThen_ok, hl]
  exact hK' _ _ (hK cs h1 h2 h3)

theorem results_big {fn : Func} {p : Tmp} {ty : TypeId} (h : fn.results = #[.cell p ty]) {b t N : Nat} {w : World} {d : TypeDesc} (tmps : Array Value) (hp : tmps.getD p undef = .pointer (some ⟨b, 0, none⟩))
    (hB : Big b t N w) (hu : Tryz.prog.underlying ty = some d) (hd : d.isRow = true) (hi : (Tryz.prog.info? ty).map (·.size) = some N) :
    ∃ cs : Array Value, (results fn tmps).run Tryz.prog w = .ok (.agg cs) w ∧ cs.size = N ∧ cs.all (·.oneCell') = true ∧ ∀ j, j < N → cs[j]? = w.cell? ⟨b, j, none⟩ := by
  obtain ⟨cs, hl, h1, h2, h3⟩ := load_big (n := N) (o := 0) ty hB (by omega) hu hd hi
  refine ⟨cs, ?_, h1, h2, fun j hj => by rw [h3 j hj, Nat.zero_add]⟩
  have hp' : tmps[p]?.getD undef = .pointer (some ⟨b, 0, none⟩) := by simpa using hp
  simp [results, h, hp', asAddr, hl]
theorem results_big2 {fn : Func} {p u : Tmp} {ty : TypeId} (h : fn.results = #[.cell p ty, .tmp u]) {b t N : Nat} {w : World} {d : TypeDesc} (tmps : Array Value) (hp : tmps.getD p undef = .pointer (some ⟨b, 0, none⟩))
    (hB : Big b t N w) (hu : Tryz.prog.underlying ty = some d) (hd : d.isRow = true) (hi : (Tryz.prog.info? ty).map (·.size) = some N) :
    ∃ cs : Array Value, (results fn tmps).run Tryz.prog w = .ok (.tuple #[.agg cs, tmps.getD u undef]) w ∧ cs.size = N ∧ cs.all (·.oneCell') = true ∧ ∀ j, j < N → cs[j]? = w.cell? ⟨b, j, none⟩ := by
  obtain ⟨cs, hl, h1, h2, h3⟩ := load_big (n := N) (o := 0) ty hB (by omega) hu hd hi
  refine ⟨cs, ?_, h1, h2, fun j hj => by rw [h3 j hj, Nat.zero_add]⟩
  rw [results_cell_tmp h, hp]
  simp [asAddr, hl, Result.andThen]

theorem bodyPost_big {fn : Func} {p : Tmp} {ty : TypeId} (h : fn.results = #[.cell p ty]) {b t N : Nat} {w : World} {d : TypeDesc} {a : Act} {Q : Ending → World → Prop} (hp : a.tmps.getD p undef = .pointer (some ⟨b, 0, none⟩)) (hdf : a.defers = [])
    (hB : Big b t N w) (hu : Tryz.prog.underlying ty = some d) (hd : d.isRow = true) (hi : (Tryz.prog.info? ty).map (·.size) = some N)
    (hK : ∀ cs : Array Value, cs.size = N → cs.all (·.oneCell') = true → (∀ j, j < N → cs[j]? = w.cell? ⟨b, j, none⟩) → Q (.returned (.agg cs)) w) : bodyPost Tryz.prog fn Q .ret a w := by
  obtain ⟨cs, hl, h1, h2, h3⟩ := results_big h a.tmps hp hB hu hd hi
  exact bodyPost_ret hl hdf (hK cs h1 h2 h3)
theorem bodyPost_big2 {fn : Func} {p u : Tmp} {ty : TypeId} (h : fn.results = #[.cell p ty, .tmp u]) {b t N : Nat} {w : World} {d : TypeDesc} {a : Act} {Q : Ending → World → Prop} (hp : a.tmps.getD p undef = .pointer (some ⟨b, 0, none⟩)) (hdf : a.defers = [])
    (hB : Big b t N w) (hu : Tryz.prog.underlying ty = some d) (hd : d.isRow = true) (hi : (Tryz.prog.info? ty).map (·.size) = some N)
    (hK : ∀ cs : Array Value, cs.size = N → cs.all (·.oneCell') = true → (∀ j, j < N → cs[j]? = w.cell? ⟨b, j, none⟩) → Q (.returned (.tuple #[.agg cs, a.tmps.getD u undef])) w) : bodyPost Tryz.prog fn Q .ret a w := by
  obtain ⟨cs, hl, h1, h2, h3⟩ := results_big2 h a.tmps hp hB hu hd hi
  exact bodyPost_ret hl hdf (hK cs h1 h2 h3)

theorem info136 : (Tryz.prog.info? 136).map (·.size) = some 200 := by kernel_rfl
theorem info138 : (Tryz.prog.info? 138).map (·.size) = some 202 := by kernel_rfl
theorem info164 : (Tryz.prog.info? 164).map (·.size) = some 202 := by kernel_rfl
theorem z136 : Tryz.zeroCells136.size = 200 ∧ Tryz.zeroCells136.all (·.oneCell') = true := ⟨by kernel_rfl, by kernel_rfl⟩
theorem z138 : Tryz.zeroCells138.size = 202 ∧ Tryz.zeroCells138.all (·.oneCell') = true := ⟨by kernel_rfl, by kernel_rfl⟩
theorem z164 : Tryz.zeroCells164.size = 202 ∧ Tryz.zeroCells164.all (·.oneCell') = true := ⟨by kernel_rfl, by kernel_rfl⟩
end Go.Proofs.YtlmmdldjfpdcfaaGreatDoor
