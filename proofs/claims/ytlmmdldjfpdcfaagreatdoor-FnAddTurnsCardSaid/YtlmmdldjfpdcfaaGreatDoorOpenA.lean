/-
  What comes in, opened: the parameters of a kind (seven fields), its context, and the list of shares.
-/
import Derived.Test.YtlmmdldjfpdcfaaGreatDoorM28
import Derived.Test.YtlmmdldjfpdcfaaGreatDoorSpecC
import Derived.Lib.SmallJoins
import Derived.Deep.Matrix
import Derived.OpenShut
import Derived.SizedLaws
import Derived.Test.YtlmmdldjfpdcfaaGreatDoorM16
namespace Go.Proofs.YtlmmdldjfpdcfaaGreatDoor
open Go.Joins Go.ChangeShapes Go.WideShapes Go.RowKit Go.Deep

section
variable {H : Type} {enc : TypeId × Value → H} {P : Program} {w : World} {base : Nat} {spare : Nat → Bool} {held : Bool}
theorem open_agg7 {r : Reach} {b0 : Nat} {t : TypeId} {f0 f1 f2 f3 f4 f5 f6 : Field} {v : Value} {d : DataW H} {p : List MemPlace} (hs : P.underlying t = some (.struct #[f0, f1, f2, f3, f4, f5, f6])) (hone : oneCellFields P #[f0, f1, f2, f3, f4, f5, f6] = true) (hC : P.cellsOf t = 7)
    (hv : Value.okWide P w r b0 t v) (h : DataW.Trod enc P w base spare held t v d p) :
    ∃ (v0 v1 v2 v3 v4 v5 v6 : Value) (y0 y1 y2 y3 y4 y5 y6 : DataW H × List MemPlace) (n : Nat), v = .agg #[v0, v1, v2, v3, v4, v5, v6] ∧ d = .agg [y0.1, y1.1, y2.1, y3.1, y4.1, y5.1, y6.1] ∧
      DataW.trod enc P w base spare held n f0.type [v0] = some y0 ∧ DataW.trod enc P w base spare held n f1.type [v1] = some y1 ∧ DataW.trod enc P w base spare held n f2.type [v2] = some y2 ∧ DataW.trod enc P w base spare held n f3.type [v3] = some y3 ∧ DataW.trod enc P w base spare held n f4.type [v4] = some y4 ∧ DataW.trod enc P w base spare held n f5.type [v5] = some y5 ∧ DataW.trod enc P w base spare held n f6.type [v6] = some y6 := by
  obtain ⟨cs, rfl, hsz⟩ := okWide_struct hs hv
  obtain ⟨l⟩ := cs
  match l, hsz.trans hC with
  | [c0, c1, c2, c3, c4, c5, c6], _ =>
    obtain ⟨fuel, hf⟩ := h
    obtain ⟨xs, n, _, hx, _, hlen, hg⟩ := DataW.trod_struct hs hf
    obtain ⟨o0, k0⟩ := hone_of hone 0 f0 rfl
    obtain ⟨o1, k1⟩ := hone_of hone 1 f1 rfl
    obtain ⟨o2, k2⟩ := hone_of hone 2 f2 rfl
    obtain ⟨o3, k3⟩ := hone_of hone 3 f3 rfl
    obtain ⟨o4, k4⟩ := hone_of hone 4 f4 rfl
    obtain ⟨o5, k5⟩ := hone_of hone 5 f5 rfl
    obtain ⟨o6, k6⟩ := hone_of hone 6 f6 rfl
    match xs, hlen with
    | [y0, y1, y2, y3, y4, y5, y6], _ =>
      simp only [Prod.mk.injEq] at hx
      exact ⟨c0, c1, c2, c3, c4, c5, c6, y0, y1, y2, y3, y4, y5, y6, n, rfl, by simpa using hx.1, by simpa [Value.cells, o0, k0] using hg 0 f0 rfl, by simpa [Value.cells, o1, k1] using hg 1 f1 rfl, by simpa [Value.cells, o2, k2] using hg 2 f2 rfl, by simpa [Value.cells, o3, k3] using hg 3 f3 rfl, by simpa [Value.cells, o4, k4] using hg 4 f4 rfl, by simpa [Value.cells, o5, k5] using hg 5 f5 rfl, by simpa [Value.cells, o6, k6] using hg 6 f6 rfl⟩
end

theorem wf_u8 {n : Int} (h : (Lit.int .u8 n).wf = true) : 0 ≤ n ∧ n ≤ 255 := by
  simp only [Lit.wf, Bool.and_eq_true, decide_eq_true_eq] at h
  have e1 : IntKind.u8.min = 0 := by decide
  have e2 : IntKind.u8.max = 255 := by decide
  rw [e1, e2] at h
  exact h
theorem wf_u64 {n : Int} (h : (Lit.int .u64 n).wf = true) : 0 ≤ n ∧ n ≤ 18446744073709551615 := by
  simp only [Lit.wf, Bool.and_eq_true, decide_eq_true_eq] at h
  have e1 : IntKind.u64.min = 0 := by decide
  have e2 : IntKind.u64.max = 18446744073709551615 := by decide
  rw [e1, e2] at h
  exact h

theorem isB_mk {w : World} {A : Option Addr} {L C : Nat} {zs : List Int} (hl : L ≤ C) (hm : C ≤ 140737488351232) (hz : zs.length = C) (hw : ∀ n ∈ zs, (Lit.int .u8 n).wf = true) (hnone : A = none → C = 0)
    (hc : ∀ a', A = some a' → ∀ c, c < C → w.cell? (a'.add c) = some (.int .u8 (zs.getD c 0))) : ∃ l, IsB w (.slice A L C) l ∧ l.length = L := by
  have hlen : ((zs.take L).map Int.toNat).length = L := by rw [List.length_map, List.length_take]; omega
  refine ⟨(zs.take L).map Int.toNat, ⟨fun x hx => ?_, A, C, by rw [hlen], by rw [hlen]; exact hl, hm, ?_⟩, hlen⟩
  · obtain ⟨z, hz', rfl⟩ := List.mem_map.1 hx
    have := wf_u8 (hw z (List.mem_of_mem_take hz'))
    omega
  · rw [hlen]
    rcases Nat.eq_zero_or_pos L with h0 | h0
    · exact .inl h0
    · right
      cases A with
      | none => have := hnone rfl; omega
      | some a' =>
        obtain ⟨b, o, spot⟩ := a'
        have h1 := hc _ rfl 0 (by omega)
        have hspot : spot = none := by simpa [Addr.add] using World.cell?_spot h1
        subst hspot
        refine ⟨b, o, rfl, fun i hi => ?_⟩
        have h2 := hc _ rfl i (by omega)
        have hi' : i < zs.length := by omega
        have h3 := wf_u8 (hw zs[i] (List.getElem_mem hi'))
        have e : ((((zs.take L).map Int.toNat).getD i 0 : Nat) : Int) = zs.getD i 0 := by
          simp only [List.getD_eq_getElem?_getD, List.getElem?_map, List.getElem?_take_of_lt hi, List.getElem?_eq_getElem hi', Option.map_some, Option.getD_some]
          omega
        rw [e]
        rw [add0] at h2
        exact h2

theorem ctx_open {H : Type} {enc : TypeId × Value → H} {P : Program} {w : World} {base : Nat} {held : Bool} {t e : TypeId} {n : Nat} {v : Value} {y : DataW H × List MemPlace} (ht : P.underlying t = some (.slice e)) (he : P.underlying e = some (.int .u8)) (hc : P.cellsOf e = 1) (hby : P.bytesOf e = 1)
    (hw : ∀ n ∈ y.1.weights P t, n ≤ 140737488351232) (h : DataW.trod enc P w base (fun _ => true) held n t [v] = some y) : ∃ a L C l, v = .slice a L C ∧ IsB w v l ∧ l.length = L ∧ ∀ m c, v = .slice none m c → c = 0 := by
  rcases open_ints ht he hc h with ⟨hcs, -⟩ | ⟨a, len, cap, zs, hcs, -, hl, hm, hz, hy, hcell, hwz⟩
  · obtain rfl : v = .slice none 0 0 := by simpa using hcs
    refine ⟨none, 0, 0, [], rfl, ⟨by simp, none, 0, rfl, Nat.le_refl _, by omega, .inl rfl⟩, rfl, fun m c h => ?_⟩
    simp at h; exact h.2.symm
  · obtain rfl : v = .slice (some a) len cap := by simpa using hcs
    simp only [if_true] at hz
    have hcap : cap ≤ 140737488351232 := by
      subst hy
      have := hw _ (by simp only [DataW.weights, ht]; exact List.mem_cons_self)
      simp only [lits, List.length_map, List.length_take, List.length_drop, hby] at this
      omega
    obtain ⟨l, hB, hL⟩ := isB_mk (w := w) (A := some a) hl hcap hz hwz (fun h => by cases h) (fun a' ha c hc => by cases ha; exact hcell c (by omega))
    exact ⟨_, _, _, l, rfl, hB, hL, fun m c h => by simp at h⟩

theorem weightsAll_mem {H : Type} {P : Program} {e : TypeId} : ∀ {l : List (DataW H)} {d : DataW H}, d ∈ l → ∀ n ∈ d.weights P e, n ∈ DataW.weightsAll P e l
  | d' :: r, d, hd, n, hn => by
    simp only [DataW.weightsAll, List.mem_append]
    rcases List.mem_cons.1 hd with rfl | h
    · exact Or.inl hn
    · exact Or.inr (weightsAll_mem h n hn)
theorem list_open {H : Type} {enc : TypeId × Value → H} {P : Program} {w : World} {base : Nat} {held : Bool} {t e q : TypeId} {v : Value} {d : DataW H} {p : List MemPlace} (ht : P.underlying t = some (.slice e)) (he : P.underlying e = some (.slice q)) (hq : P.underlying q = some (.int .u8))
    (ce : P.cellsOf e = 1) (cq : P.cellsOf q = 1) (hby : P.bytesOf q = 1) (hw : ∀ n ∈ d.weights P t, n ≤ 140737488351232) (hv : ∃ a L C, v = .slice a L C) (h : DataW.Trod enc P w base (fun _ => true) held t v d p) : ∃ ls, IsBs w v ls ∧ ∀ a L C, v = .slice a L C → a = none → C = 0 := by
  obtain ⟨a0, L0, C0, rfl⟩ := hv
  obtain ⟨fuel, hf⟩ := h
  rcases open_int_rows ht he hq ce cq hf with ⟨hcs, -⟩ | ⟨a, len, cap, A, L, C, Z, hcs, -, hl, hm, hd, hr⟩
  · simp [Value.cells] at hcs
    obtain ⟨rfl, rfl, rfl⟩ := hcs
    exact ⟨[], ⟨none, 0, rfl, .inl rfl⟩, fun a L C h _ => by simp at h; exact h.2.2.symm⟩
  · simp [Value.cells] at hcs
    obtain ⟨rfl, rfl, rfl⟩ := hcs
    have each : ∀ r, r < L0 → ∃ l : List Nat, IsB w (.slice (A r) (L r) (C r)) l := by
      intro r hrl
      obtain ⟨_, r1, r2, r3, r4, r5, r6⟩ := hr r (by omega)
      have hcap : C r ≤ 140737488351232 := by
        cases hA : A r with
        | none => have := r5 hA; omega
        | some a' =>
          simp only [Prod.mk.injEq] at hd
          have hd1 := hd.1
          subst hd1
          have hmem : DataW.slice (lits .u8 ((Z r).take (L r))) (lits .u8 ((Z r).drop (L r))) ∈ (List.range L0).map fun r => intRow (H := H) .u8 (A r) (L r) (Z r) := by
            refine List.mem_map.2 ⟨r, List.mem_range.2 hrl, ?_⟩
            simp only [intRow, hA]
          have := hw _ (by
            simp only [DataW.weights, ht, List.mem_cons, List.mem_append]
            exact Or.inr (Or.inl (weightsAll_mem hmem _ (by simp only [DataW.weights, he]; exact List.mem_cons_self))))
          simp only [lits, List.length_map, List.length_take, List.length_drop, hby] at this
          omega
      obtain ⟨l, hB, -⟩ := isB_mk (w := w) r1 hcap r3 r4 r5 (fun a' ha c hc => (r6 a' ha).2 c hc)
      exact ⟨l, hB⟩
    obtain ⟨f, hf'⟩ := choose_lt each
    have hlen : ((List.range L0).map f).length = L0 := by simp
    refine ⟨(List.range L0).map f, ⟨some a, C0, by rw [hlen], ?_⟩, fun a' L' C' h hn => by simp at h; rw [← h.1] at hn; cases hn⟩
    rw [hlen]
    rcases Nat.eq_zero_or_pos L0 with h0 | h0
    · exact .inl h0
    · right
      obtain ⟨b, o, spot⟩ := a
      have h1 := (hr 0 (by omega)).1
      have hspot : spot = none := by simpa [Addr.add] using World.cell?_spot h1
      subst hspot
      refine ⟨b, o, rfl, fun i hi => ⟨.slice (A i) (L i) (C i), ?_, ?_⟩⟩
      · have h2 := (hr i (by omega)).1
        rw [add0] at h2
        exact h2
      · have h3 := hf' i hi
        have e : ((List.range L0).map f).getD i [] = f i := by simp [List.getD, hi]
        rw [e]
        exact h3

theorem u8_cell {P : Program} {t : TypeId} {w : World} {r : Reach} {b : Nat} {v : Value} (hu : P.underlying t = some (.int .u8)) (h : Cell.ok P w r b t v) : ∃ x : Int, v = .int .u8 x := by
  unfold Cell.ok at h
  rw [hu] at h
  cases v <;> simp at h
  case int k n => exact ⟨n, by rw [h.1]⟩
theorem deb_gen {P : Program} {g t e : Nat} {w : World} (h : w.ShapedOpen P) (hg : g < P.globals.size) (h0 : ((begin P (fun _ _ => 0) default).world.heap[g]?).bind Obj.row? = some (Array.replicate 64 (.int .u8 0), t)) (hb : P.buildable t = true)
    (hc : P.cellTypes P.depth t = some (List.replicate 64 e)) (hu : P.underlying e = some (.int .u8)) : ∀ i, i < 64 → ∃ x : Int, w.cell? ⟨g, i, none⟩ = some (.int .u8 x) := by
  obtain ⟨cs, hh, hs, hr⟩ := h.1 g _ _ hg h0
  clear h0 hg h
  obtain ⟨ts, hts, _, hall⟩ := hr hb
  rw [hc] at hts
  obtain rfl := Option.some.inj hts
  intro i hi
  have h1 : i < cs.size := by rw [hs, Array.size_replicate]; exact hi
  obtain ⟨u, hu', hok⟩ := hall i (cs[i]'h1) (Array.getElem?_eq_getElem h1)
  obtain rfl : u = e := by
    rw [List.length_replicate, Nat.mod_eq_of_lt hi, List.getElem?_replicate, if_pos hi] at hu'
    exact (Option.some.inj hu').symm
  obtain ⟨x, hx⟩ := u8_cell hu hok
  exact ⟨x, (blk_cell hh i).trans ((Array.getElem?_eq_getElem h1).trans (by rw [hx]))⟩
end Go.Proofs.YtlmmdldjfpdcfaaGreatDoor
