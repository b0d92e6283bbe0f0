/-
  FnAddTurns, for every kind and every list of shares: it returns true, and its arguments read as they did. It holds in every world in which the listed package variables read as their initialisers lay them.
-/
import Derived.Test.YtlmmdldjfpdcfaaGreatDoorCards
import Derived.Test.YtlmmdldjfpdcfaaGreatDoorTie
import Derived.Test.YtlmmdldjfpdcfaaGreatDoorTurC
import Derived.Test.YtlmmdldjfpdcfaaGreatDoorOpenA
import Derived.Test.YtlmmdldjfpdcfaaGreatDoorRowBW
import Derived.WalkKit
import Derived.ProofKit
import Derived.OpenShut
import Derived.OpenVars
import Derived.Deep.DeepHandedRow
import Derived.Deep.DeepWitnessRowRef
import Derived.Lib.LaidTab
import Derived.Lib.LaidIn
namespace Go.Proofs.YtlmmdldjfpdcfaaGreatDoor.fnAddTurns
open Go.ChangeShapes Go.WideShapes Go.ChangeAt Go.RowKit

theorem own : ownKnob Tryz.prog.godebug = none := by kernel_rfl
theorem laidOut : laidOutB Tryz.prog = true := by kernel_rfl
theorem cells5 : Tryz.prog.cellsOf 5 = 1 := by kernel_rfl
theorem cells23 : Tryz.prog.cellsOf 23 = 1 := by kernel_rfl
theorem cells25 : Tryz.prog.cellsOf 25 = 7 := by kernel_rfl
theorem bytes5 : Tryz.prog.bytesOf 5 = 1 := by kernel_rfl
theorem deb {W : World} (h : W.ShapedOpen Tryz.prog) : Deb W :=
  deb_gen (t := 341) (e := 5) h (of_decide_eq_true (by kernel_rfl)) (by kernel_rfl) (by kernel_rfl) (by kernel_rfl) Tryz.underlying5

theorem weights_app {H : Type} {P : Program} : ∀ {ts us : List TypeId} {ds gs : List (DataW H)}, ds.length = ts.length → ∀ n ∈ DataW.weightsEach P ts ds, n ∈ DataW.weightsEach P (ts ++ us) (ds ++ gs)
  | [], _, [], _, _, n, hn => by simp [DataW.weightsEach] at hn
  | [], _, _ :: _, _, h, _, _ => by simp at h
  | _ :: _, _, [], _, h, _, _ => by simp at h
  | t :: ts, us, d :: ds, gs, h, n, hn => by
    simp only [DataW.weightsEach, List.cons_append, List.mem_append] at hn ⊢
    rcases hn with hn | hn
    · exact .inl hn
    · exact .inr (weights_app (by simpa using h) n hn)
theorem trodVars_len {H : Type} {enc : TypeId × Value → H} {P : Program} {w : World} {sp : Nat → Bool} : ∀ {ns : List String} {gs : List (DataW H)} {ps : List MemPlace}, DataW.TrodVars enc P w sp ns gs ps → gs.length = ns.length
  | [], [], _, _ => rfl
  | [], _ :: _, _, h => h.elim
  | _ :: _, [], _, h => h.elim
  | _ :: _, _ :: _, _, h => by
    obtain ⟨_, _, _, _, _, _, _, _, _, _, hs, _⟩ := h
    simp [trodVars_len hs]
theorem len17 {α : Type} : ∀ {l : List α}, l.length = 17 → ∃ g1 g2 g3 g4 g5 g6 g7 g8 g9 g10 g11 g12 g13 g14 g15 g16 g17, l = [g1, g2, g3, g4, g5, g6, g7, g8, g9, g10, g11, g12, g13, g14, g15, g16, g17]
  | [g1, g2, g3, g4, g5, g6, g7, g8, g9, g10, g11, g12, g13, g14, g15, g16, g17], _ => ⟨g1, g2, g3, g4, g5, g6, g7, g8, g9, g10, g11, g12, g13, g14, g15, g16, g17, rfl⟩
set_option maxRecDepth 100000 in
set_option maxHeartbeats 2000000 in
theorem contract (H : Type) (enc : TypeId × Value → H) (W : World) (base : Nat) (args : Array Value) (ds gs : List (DataW H)) (before : List MemPlace)
    (hval0 : ∀ (j : Nat) t v, Tryz.f5.params[j]? = some t → args[j]? = some v → Value.okWide Tryz.prog W .any base t v)
    (hW : DataW.Whole enc Tryz.prog Tryz.f5.params.toList Rows.fnAddTurnsSpec.vars false W args.toList ds gs before)
    (hsz : ∀ n ∈ DataW.weightsEach Tryz.prog [25, 26] ds, n ≤ 140737488351232) (hsh : W.ShapedOpen Tryz.prog) :
    Calls Tryz.prog 5 args W fun e W' => ∃ v, e = .returned v ∧ Rows.fnAddTurnsSpec.post enc Tryz.prog Tryz.f5 false true false false W args v W' := by
  have hval : ∀ (j : Nat) t v, Tryz.f5.params[j]? = some t → args[j]? = some v → Value.okWide Tryz.prog W .any base t v := hval0
  have hW' := hW
  obtain ⟨p, q, hA0, hV, rfl, hfz, hnd⟩ := hW
  have hgl : gs.length = 17 := trodVars_len hV
  obtain ⟨g1, g2, g3, g4, g5, g6, g7, g8, g9, g10, g11, g12, g13, g14, g15, g16, g17, rfl⟩ := len17 hgl
  have hA : DataW.TrodAll enc Tryz.prog W 0 (fun _ => true) true Tryz.f5.params.toList args.toList ds p := hA0
  rw [Tryz.params5] at hA hval
  obtain ⟨v0, v1, d0, d1, p0, p1, rfl, rfl, rfl, h0, h1⟩ := trodAll_two hA
  have k0 := h0
  have k1 := h1
  have lt0 : ∀ x ∈ p0, x.block < W.heap.size := by obtain ⟨m, hm⟩ := k0; exact DataW.trod_lt m _ _ _ hm
  have lt1 : ∀ x ∈ p1, x.block < W.heap.size := by obtain ⟨m, hm⟩ := k1; exact DataW.trod_lt m _ _ _ hm
  clear hA0 hval0 hA
  have hdeb := deb hsh
  clear hsh
  obtain ⟨c0, c1, c2, c3, c4, c5, c6, y0, y1, y2, y3, y4, y5, y6, n, rfl, rfl, t0, t1, t2, t3, t4, t5, t6⟩ := open_agg7 Tryz.underlying25 (by kernel_rfl) cells25 (hval 0 25 v0 rfl rfl) h0
  obtain ⟨k, e0, -, -⟩ := DataW.trod_int Tryz.underlying3 t0
  obtain ⟨s, e1, -, -⟩ := DataW.trod_int Tryz.underlying3 t1
  obtain ⟨nn, e2, -, -⟩ := DataW.trod_int Tryz.underlying3 t2
  obtain ⟨b, e3, -, -⟩ := DataW.trod_int Tryz.underlying3 t3
  obtain ⟨c, e4, -, -⟩ := DataW.trod_int Tryz.underlying3 t4
  obtain ⟨m, e5, -, wm⟩ := DataW.trod_int Tryz.underlying22 t5
  have wm' := wf_u64 wm
  obtain rfl : c0 = .int .i64 k := by simpa using e0
  obtain rfl : c1 = .int .i64 s := by simpa using e1
  obtain rfl : c2 = .int .i64 nn := by simpa using e2
  obtain rfl : c3 = .int .i64 b := by simpa using e3
  obtain rfl : c4 = .int .i64 c := by simpa using e4
  obtain rfl : c5 = .int .u64 m := by simpa using e5
  obtain ⟨a, L, C, l, rfl, hB, hL, hnil⟩ := ctx_open Tryz.underlying23 Tryz.underlying5 cells5 bytes5 (fun n hn => hsz n (DataW.weights_mem_each (j := 0) (t := 25) rfl rfl n (by
    simp only [DataW.weights, Tryz.underlying25]
    exact DataW.weights_mem_each (j := 6) (t := 23) rfl rfl n hn))) t6
  obtain ⟨ls, hS, hlnil⟩ := list_open Tryz.underlying26 Tryz.underlying23 Tryz.underlying5 cells23 cells5 bytes5 (fun n hn => hsz n (DataW.weights_mem_each (j := 1) (t := 26) rfl rfl n hn)) (okWide_slice Tryz.underlying26 (hval 1 26 v1 rfl rfl)) h1
  refine (turnAll hB hL hnil wm'.1 wm'.2 hdeb hS hlnil).mono fun e W' ⟨he, hx⟩ => ?_
  subst he
  have bel := hx.below
  have hv' := Below.trodVars laidOut bel (by kernel_rfl) hV
  exact ⟨_, rfl, _, _, _, [], _, _, hW', trodAll_mk1 (shut_bool Tryz.underlying4 _), trodAll_mk2 (Below.trod laidOut (by kernel_rfl) (of_decide_eq_true (by kernel_rfl)) k0 bel lt0) (Below.trod laidOut (by kernel_rfl) (of_decide_eq_true (by kernel_rfl)) k1 bel lt1), hv', bel.frame _, fun h => by cases h⟩
set_option maxRecDepth 100000 in
set_option maxHeartbeats 2000000 in
theorem lifted (os : Os) (started : os.Started) (H : Type) (enc : TypeId × Value → H) (F : Stop.Interp) :
    ReturnsInHanded {} Tryz.checked os 5 .any ((OpenSpec.ofChange Rows.fnAddTurnsSpec).preRow enc Tryz.prog Tryz.f5 Rows.fnAddTurnsRow.domain false Rows.fnAddTurnsRow.laid) (((OpenSpec.ofChange Rows.fnAddTurnsSpec).at F).post enc Tryz.prog Tryz.f5 false true false false) := by
  refine returnsInHanded_of_row (C := Tryz.checked) (s := OpenSpec.ofChange Rows.fnAddTurnsSpec) own started (by kernel_rfl) Tryz.func5
    (witness_row_atRef (enc := enc) (C := Tryz.checked) false (laidWorld os) args0 rfl (wv os) (wr os) (wo os) (witness_row os enc)) ?_
  intro W base args ds gs before hval hW _ _ hsz0 _ hsh _
  refine contract H enc W base args ds gs before hval hW (fun n hn => ?_) hsh
  have hl : ds.length = [25, 26].length := by
    obtain ⟨p, q, hA0, -⟩ := hW
    have hA : DataW.TrodAll enc Tryz.prog W 0 (fun _ => true) true Tryz.f5.params.toList args.toList ds p := hA0
    rw [Tryz.params5] at hA
    obtain ⟨v0, v1, d0, d1, p0, p1, -, rfl, -⟩ := trodAll_two hA
    rfl
  have hsz : (DataW.weightsEach Tryz.prog (Tryz.f5.params.toList ++ (OpenSpec.ofChange Rows.fnAddTurnsSpec).bare.plain.varTypes Tryz.prog) (ds ++ gs)).all (· ≤ reachBytes) = true := hsz0
  rw [Tryz.params5] at hsz
  have h := List.all_eq_true.1 hsz n (weights_app hl n hn)
  exact of_decide_eq_true h
end Go.Proofs.YtlmmdldjfpdcfaaGreatDoor.fnAddTurns
