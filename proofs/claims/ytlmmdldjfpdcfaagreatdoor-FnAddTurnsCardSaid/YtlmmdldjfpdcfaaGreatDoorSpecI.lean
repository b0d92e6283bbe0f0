/-
  spec.read: the numbers of bytes, and whether they are so many, all below the prime.
-/
import Derived.Test.YtlmmdldjfpdcfaaGreatDoorM18
import Derived.Test.YtlmmdldjfpdcfaaGreatDoorM06
import Derived.Test.YtlmmdldjfpdcfaaGreatDoorM07
import Derived.BigRegion
namespace Go.Proofs.YtlmmdldjfpdcfaaGreatDoor
open Go.RowKit

theorem info53 : (Tryz.prog.info? 53).map (fun i => (i.zero, i.size, i.bytes)) = some (some (.agg #[.int .u64 0, .int .u64 0]), 2, 16) := by kernel_rfl
theorem wpList_append_two {ops : Array Oper} {rest : List Oper} {o : Oper} {a : Act} {Q : Exit → Act → World → Prop} (w0 w : World) (hgd : o.guard = none) (s x : Operand)
    (ho : o.op = .call { callee := .builtin .append, args := #[s, x], argTypes := #[59, 59] })
    (v : Value) (n : Nat) (xs : List Value) (hs : a.eval s = v) (hG : Gro w0 53 2 v n xs w) (ad : Addr) (u : Nat) (c : Nat) (hx : a.eval x = .slice (some ad) 1 c) (hu : w.cell? (ad.add 0) = some (.int .u64 (lw u))) (hu1 : w.cell? (ad.add 1) = some (.int .u64 (hw u))) (hn : n ≤ 100000)
    (h : ∀ v' w', Gro w0 53 2 v' (n + 1) (xs ++ enc128 u) w' → wpList Tryz.prog ops Q rest (a.put o.dst v') w') : wpList Tryz.prog ops Q (o :: rest) a w := by
  obtain ⟨i, hi, hz, hs1, hb1⟩ := of_info info53
  have hv : ¬ v = .slice none 0 0 := by obtain ⟨-, -, a, c, rfl⟩ := hG; simp
  refine wpList_append_own (P := Tryz.prog) w hgd s x 59 ho w0.heap.size 53 i (.agg #[.int .u64 0, .int .u64 0]) 2 16 Tryz.underlying59 hi hz hs1 hb1 rfl (by decide) v n xs hs hG.1 ad 1 c (enc128 u) hx (by simp [enc128]) (fun j z hz => ?_) (fun z hz => ?_) (by simp only [maxLen]; omega) (by omega) hG.2.1.size (fun v' w' k1 k2 k3 => ?_)
  · match j, hz with
    | 0, hz => simp [enc128] at hz; subst hz; exact hu
    | 1, hz => simp [enc128] at hz; subst hz; exact hu1
    | j + 2, hz => simp [enc128] at hz
  · simp [enc128] at hz; rcases hz with rfl | rfl <;> rfl
  · refine h v' w' ⟨k1, hG.2.1.grown k2 (fun k hk => .inl (hG.ownBlock_le k hk)), slice_len k1 (fun e => hv (k3.1 e).1)⟩

theorem good_chunk {sz p n : Nat} {l : List Nat} (h : good sz p n l) : ∀ i, i < n → chunk sz l i < p := ((okN_iff _ _ _ _).1 h.1).2
/-- The number of the first j bytes of a chunk. -/
def part (sz : Nat) (l : List Nat) (k j : Nat) : Nat := leL ((l.drop (k * sz)).take j)
theorem leL_snoc (l : List Nat) (b : Nat) : leL (l ++ [b]) = leL l + b * 256 ^ l.length := by
  induction l with
  | nil => simp [leL]
  | cons x l ih => simp only [List.cons_append, leL, ih, List.length_cons, Nat.pow_succ, Nat.mul_add]; rw [Nat.add_assoc, Nat.mul_left_comm, Nat.mul_comm (256 ^ l.length) 256]
theorem part_snoc {sz k j n : Nat} {l : List Nat} (hl : l.length = n * sz) (hk : k < n) (hj : j < sz) : part sz l k (j + 1) = part sz l k j + l.getD (k * sz + j) 0 * 256 ^ j := by
  have h1 : (k + 1) * sz ≤ n * sz := Nat.mul_le_mul_right _ hk
  rw [Nat.add_mul, Nat.one_mul] at h1
  unfold part
  rw [take_snocD _ _ (by rw [List.length_drop]; omega), leL_snoc, drop_get, List.length_take, List.length_drop, Nat.min_eq_left (by omega)]
theorem part_lt {sz k j : Nat} {l : List Nat} (hb : ∀ x ∈ l, x < 256) : part sz l k j < 256 ^ j :=
  leL_bound _ (fun b h => hb b (List.mem_of_mem_drop (List.mem_of_mem_take h))) _ (by rw [List.length_take]; omega)

theorem or_place (a b j : Nat) (hj : j < 8) (ha : a < 256 ^ j) (hb : b < 256) : bits .or .u64 (a : Int) ((b : Int) * 2 ^ (8 * j)) = ((a + b * 256 ^ j : Nat) : Int) := by
  have e : (256 : Nat) ^ j = 2 ^ (8 * j) := by rw [Nat.pow_mul]
  have h2 : (2 : Nat) ^ (8 * j) ≤ 2 ^ 56 := Nat.pow_le_pow_right (by decide) (by omega)
  have hbb : b * 2 ^ (8 * j) ≤ 255 * 2 ^ 56 := Nat.mul_le_mul (by omega) h2
  have e1 : ((b : Int) * 2 ^ (8 * j)) = ((b * 2 ^ (8 * j) : Nat) : Int) := by simp
  rw [e1, bits_or_u64_nat _ _ (by omega) (by omega)]
  have h := Nat.shiftLeft_add_eq_or_of_lt (i := 8 * j) (b := a) (by omega) b
  rw [Nat.shiftLeft_eq] at h
  rw [e, Nat.or_comm, ← h, Nat.add_comm]

theorem wrapb (b j : Nat) (hj : j < 8) (hb : b < 256) : IntKind.u64.wrap (IntKind.u64.wrap (b : Int) * 2 ^ (8 * j)) = (b : Int) * 2 ^ (8 * j) := by
  rw [IntKind.wrap_u64, IntKind.wrap_u64]
  rcases (by omega : j = 0 ∨ j = 1 ∨ j = 2 ∨ j = 3 ∨ j = 4 ∨ j = 5 ∨ j = 6 ∨ j = 7) with rfl | rfl | rfl | rfl | rfl | rfl | rfl | rfl <;> (simp only [Nat.reduceMul, Int.reducePow]; omega)
theorem step_lo (V b j : Nat) (hj : j < 8) (hV : V < 256 ^ j) (hb : b < 256) : bits .or .u64 (lw V) (IntKind.u64.wrap (IntKind.u64.wrap (b : Int) * 2 ^ (8 * (j % 8)))) = lw (V + b * 256 ^ j) ∧ hw (V + b * 256 ^ j) = hw V := by
  have h1 : V + b * 256 ^ j < 18446744073709551616 ∧ V < 18446744073709551616 := by
    rcases (by omega : j = 0 ∨ j = 1 ∨ j = 2 ∨ j = 3 ∨ j = 4 ∨ j = 5 ∨ j = 6 ∨ j = 7) with rfl | rfl | rfl | rfl | rfl | rfl | rfl | rfl <;> (simp only [Nat.reducePow] at *; omega)
  have e1 : lw V = (V : Int) := by unfold lw; rw [Nat.mod_eq_of_lt h1.2]
  have e2 : lw (V + b * 256 ^ j) = ((V + b * 256 ^ j : Nat) : Int) := by unfold lw; rw [Nat.mod_eq_of_lt h1.1]
  rw [Nat.mod_eq_of_lt hj, wrapb b j hj hb, e1, e2, or_place V b j hj hV hb]
  refine ⟨rfl, ?_⟩
  unfold hw
  rw [Nat.div_eq_of_lt h1.1, Nat.div_eq_of_lt h1.2]
theorem step_hi (V b i : Nat) (hj : i < 8) (hV : V < 256 ^ (i + 8)) (hb : b < 256) : bits .or .u64 (hw V) (IntKind.u64.wrap (IntKind.u64.wrap (b : Int) * 2 ^ (8 * ((i + 8) % 8)))) = hw (V + b * 256 ^ (i + 8)) ∧ lw (V + b * 256 ^ (i + 8)) = lw V := by
  have e0 : (256 : Nat) ^ (i + 8) = 256 ^ i * 18446744073709551616 := by rw [Nat.pow_add]
  have h1 : V / 18446744073709551616 < 256 ^ i := by rw [Nat.div_lt_iff_lt_mul (by decide), ← e0]; exact hV
  have e1 : V + b * 256 ^ (i + 8) = V + (b * 256 ^ i) * 18446744073709551616 := by rw [e0, Nat.mul_assoc]
  rw [Nat.add_mod_right, Nat.mod_eq_of_lt hj, wrapb b i hj hb, e1]
  unfold hw lw
  rw [or_place _ b i hj h1 hb]
  constructor
  · congr 1; omega
  · congr 1; omega

set_option maxHeartbeats 2000000 in
theorem specRead8 {n r0 r1 x p : Nat} {l : List Nat} {v : Value} {w : World} (hB : IsB w v l) (hn0 : 0 < n) (hn : n ≤ 16) :
    Calls Tryz.prog 22 #[fieldV p 8 r0 r1 x, v, .int .i64 (n : Nat)] w fun e w' => Ext w w' No ∧
      (good 8 p n l → ∃ v', e = .returned (.tuple #[v', .bool true]) ∧ Gro w 53 2 v' n (vecC enc128 (chunks 8 n l)) w') ∧ (¬ good 8 p n l → e = .returned (.tuple #[.slice none 0 0, .bool false])) := by
  obtain ⟨hlt, a, c, rfl, hmc, hc, hcell⟩ := hB
  have HLT := Lib.hid hlt; clear hlt
  by_cases hlen : l.length = n * 8
  · obtain ⟨b, o, rfl, hcl⟩ := hcell.resolve_left (by omega)
    clear hcell
    have hxx : Ext w (w.alloc (.cells #[.int .u64 (lw p), .int .u64 (hw p), .int .i64 8, .int .u64 (r0 : Nat), .int .u64 (r1 : Nat), .int .i64 (x : Nat)] 55)) No := (Ext.refl w No).alloc _
    have hfb := blk_new w (.cells #[.int .u64 (lw p), .int .u64 (hw p), .int .i64 8, .int .u64 (r0 : Nat), .int .u64 (r1 : Nat), .int .i64 (x : Nat)] 55)
    have hg0 := Gro.new (w.alloc (.cells #[.int .u64 (lw p), .int .u64 (hw p), .int .i64 8, .int .u64 (r0 : Nat), .int .u64 (r1 : Nat), .int .i64 (x : Nat)] 55)) _ 53 2 (Ext.refl _ No)
    rw [show (w.alloc (.cells #[.int .u64 (lw p), .int .u64 (hw p), .int .i64 8, .int .u64 (r0 : Nat), .int .u64 (r1 : Nat), .int .i64 (x : Nat)] 55)).heap.size = w.heap.size + 1 from by simp] at hg0
    rw [hlen]
    have HL := Lib.hid hlen; clear hlen
    have HC := Lib.hid hcl; clear hcl
    have HX := Lib.hid hxx; clear hxx
    have HF := Lib.hid hfb; clear hfb
    have HG0 := Lib.hid hg0; clear hg0
    clear hmc hc
    unfold fieldV
    rw [show (((8 : Nat) : Int)) = 8 from rfl]
    have c2 := blk_cell HF.out 2
    have c0 := blk_cell HF.out 0
    have c1 := blk_cell HF.out 1
    go_enter Tryz.func22, Tryz.ntmps22
    go_wp2
    go_loopw [8, 9] (fun v i wr => ∃ k : Nat, k ≤ n ∧ i = .int .i64 k ∧ Hid (Gro (w.alloc (.cells #[.int .u64 (lw p), .int .u64 (hw p), .int .i64 8, .int .u64 (r0 : Nat), .int .u64 (r1 : Nat), .int .i64 (x : Nat)] 55)) 53 2 v k (vecC enc128 (chunks 8 k l)) wr) ∧ Hid (∀ i, i < k → chunk 8 l i < p)) (fun _ i _ => n - (intOf i).toNat)
    case atStart => exact ⟨0, by omega, rfl, HG0, fun i hi => by omega⟩
    case round =>
      obtain ⟨k, hk, rfl, hR, hP⟩ := hrel
      obtain ⟨w1, hw1⟩ : ∃ w1, w1 = wr := ⟨_, rfl⟩
      subst hw1
      by_cases hkn : k = n
      · subst hkn
        go_wp2
        go_ret2
        have hgd : good 8 p k l := ⟨(okN_iff _ _ _ _).2 ⟨by rw [HL.out]; exact Nat.le_refl _, hP.out⟩, HL.out⟩
        exact ⟨HX.out.transNo hR.out.2.1, fun _ => ⟨_, rfl, hR.out.base HX.out⟩, fun h => absurd hgd h⟩
      · have hlk : k < n := by omega
        have q2 := hR.out.2.1.cellNo c2
        have q0 := hR.out.2.1.cellNo c0
        have q1 := hR.out.2.1.cellNo c1
        go_wp2
        go_loopw [11] (fun i w2 => ∃ j : Nat, j ≤ 8 ∧ i = .int .i64 j ∧ Ext w1 w2 No ∧ Hid (w2.heap[w1.heap.size]? = some (.cells #[.int .u64 (lw (part 8 l k j)), .int .u64 (hw (part 8 l k j))] 53 (0, 0)))) (fun i _ => 8 - (intOf i).toNat)
        case atStart =>
          refine ⟨0, by omega, rfl, ?_, ?_⟩
          · exact (Ext.refl w1 No).alloc _
          · have h := blk_new w1 (.cells #[.int .u64 0, .int .u64 0] 53)
            rw [show part 8 l k 0 = 0 from rfl, show lw 0 = 0 from rfl, show hw 0 = 0 from rfl]
            exact h
        case round =>
          obtain ⟨j, hj, rfl, hx2, hb2⟩ := hrel
          have q3 := hx2.cellNo q2
          by_cases hjn : j = 8
          · subst hjn
            have p0 := hx2.cellNo q0
            have p1 := hx2.cellNo q1
            have e0 := blk_cell hb2.out 0
            have e1 := blk_cell hb2.out 1
            rw [show part 8 l k 8 = chunk 8 l k from rfl] at e0 e1
            have e0' : wr.cell? ⟨w1.heap.size, 0, none⟩ = some (.int .u64 (lw (chunk 8 l k))) := e0
            have e1' : wr.cell? ⟨w1.heap.size, 1, none⟩ = some (.int .u64 (hw (chunk 8 l k))) := e1
            clear e0 e1
            by_cases hV : chunk 8 l k < p
            · have D := decide_eq_true hV
              have HD := Lib.hid D; clear D
              go_wp2_with (first
                | (go_at_call 40; refine (specLess' _ _ _).mono ?_; rintro e w3 ⟨rfl, hx3⟩; rw [HD.out]; have e30 := hx3.cellNo e0'; have e31 := hx3.cellNo e1'; have HX3 := Lib.hid hx3; clear hx3)
                | ((with_reducible refine at_dst 63 ?_); refine wpList_append_two _ _ rfl (.tmp 60) (.tmp 62) rfl u8 k _ rfl (hR.out.extNo ((hx2.transNo HX3.out).alloc _)) ⟨w3.heap.size, 0, none⟩ (chunk 8 l k) 1 rfl (blk_cell (blk_new _ _) 0) (blk_cell (blk_new _ _) 1) (by omega) ?_; intro v' w' hG; have HG := Lib.hid hG; clear hG))
              refine ⟨⟨k + 1, by omega, by go_num, ?_, ?_⟩, by simp [intOf]; omega⟩
              · have h := HG.out
                rw [chunks_snoc, vecC_snoc]
                exact h
              · intro i hi
                by_cases hik : i = k
                · subst hik; exact hV
                · exact hP.out i (by omega)
            · have D := decide_eq_false hV
              have HD := Lib.hid D; clear D
              go_wp2_with (go_at_call 40; refine (specLess' _ _ _).mono ?_; rintro e w3 ⟨rfl, hx3⟩; rw [HD.out]; have HX3 := Lib.hid hx3; clear hx3)
              go_ret2
              exact ⟨(HX.out.transNo hR.out.2.1).transNo (hx2.transNo HX3.out), fun h => absurd (good_chunk h k hlk) hV, fun _ => rfl⟩
          · have hlj : j < 8 := by omega
            have h1 : k * 8 + j < n * 8 := by
              have h1 : (k + 1) * 8 ≤ n * 8 := Nat.mul_le_mul_right _ hlk
              rw [Nat.add_mul, Nat.one_mul] at h1
              omega
            have hbyte : wr.cell? ⟨b, o + (k * 8 + j), none⟩ = some (.int .u8 (l.getD (k * 8 + j) 0 : Nat)) :=
              hx2.cellNo (hR.out.2.1.cellNo (HX.out.cellNo (HC.out _ (by rw [HL.out]; exact h1))))
            obtain ⟨y, hy, hyn⟩ : ∃ y : Int, wr.cell? ⟨w1.heap.size, j / 8, none⟩ = some (.int .u64 y) ∧ Hid (y = lw (part 8 l k j)) := by
              exact ⟨_, by rw [show j / 8 = 0 from by omega]; exact blk_cell hb2.out 0, rfl⟩
            have fy := blk_frz hb2.out (j / 8)
            have i0 : (0 : Int) ≤ (j : Int) / 8 := by omega
            have i1 : (j : Int) / 8 < 2 := by omega
            have i2 : (0 : Int) ≤ (k : Int) * 8 + (j : Int) := by omega
            have i3 : (k : Int) * 8 + (j : Int) < (n : Int) * 8 := by omega
            generalize hbb : l.getD (k * 8 + j) 0 = bb at *
            go_wp2_with fail
            go_region
            go_wp2
            have hbl := blk_set hb2.out (j / 8) (.int .u64 (bits .or .u64 y (IntKind.u64.wrap (IntKind.u64.wrap (bb : Int) * 2 ^ (8 * (j % 8))))))
            have le : w1.heap.size ≤ w1.heap.size := Nat.le_refl _
            refine ⟨⟨j + 1, by omega, by go_num, (hx2.set (.inl le) _).drew, ?_⟩, by simp [intOf]; omega⟩
            refine hbl.trans ?_
            have hps := part_snoc (sz := 8) (j := j) (k := k) HL.out hlk hlj
            rw [hbb] at hps
            have hV : part 8 l k j < 256 ^ j := part_lt HLT.out
            have hb256 : bb < 256 := by rw [← hbb]; exact getD_lt l HLT.out _
            rw [hps]
            obtain ⟨s1, s2⟩ := step_lo _ bb j hlj hV hb256
            rw [hyn.out, s1, s2, show j / 8 = 0 from by omega]
            rfl
  · have HNG : Hid (¬ good 8 p n l) := fun hg => hlen hg.2
    have d1 : ((l.length : Int) == (n : Int) * 8) = false := by simp; omega
    have d2 : (l.length == n * 8) = false := by simpa using hlen
    have d3 : decide ((l.length : Int) = (n : Int) * 8) = false := decide_eq_false (by omega)
    generalize l.length = L at *
    unfold fieldV
    rw [show (((8 : Nat) : Int)) = 8 from rfl]
    go_enter Tryz.func22, Tryz.ntmps22
    go_wp2
    go_ret2
    exact ⟨(Ext.refl w No).alloc _, fun h => absurd h HNG.out, fun _ => rfl⟩

set_option maxHeartbeats 2000000 in
theorem specRead16 {n r0 r1 x p : Nat} {l : List Nat} {v : Value} {w : World} (hB : IsB w v l) (hn0 : 0 < n) (hn : n ≤ 16) :
    Calls Tryz.prog 22 #[fieldV p 16 r0 r1 x, v, .int .i64 (n : Nat)] w fun e w' => Ext w w' No ∧
      (good 16 p n l → ∃ v', e = .returned (.tuple #[v', .bool true]) ∧ Gro w 53 2 v' n (vecC enc128 (chunks 16 n l)) w') ∧ (¬ good 16 p n l → e = .returned (.tuple #[.slice none 0 0, .bool false])) := by
  obtain ⟨hlt, a, c, rfl, hmc, hc, hcell⟩ := hB
  have HLT := Lib.hid hlt; clear hlt
  by_cases hlen : l.length = n * 16
  · obtain ⟨b, o, rfl, hcl⟩ := hcell.resolve_left (by omega)
    clear hcell
    have hxx : Ext w (w.alloc (.cells #[.int .u64 (lw p), .int .u64 (hw p), .int .i64 16, .int .u64 (r0 : Nat), .int .u64 (r1 : Nat), .int .i64 (x : Nat)] 55)) No := (Ext.refl w No).alloc _
    have hfb := blk_new w (.cells #[.int .u64 (lw p), .int .u64 (hw p), .int .i64 16, .int .u64 (r0 : Nat), .int .u64 (r1 : Nat), .int .i64 (x : Nat)] 55)
    have hg0 := Gro.new (w.alloc (.cells #[.int .u64 (lw p), .int .u64 (hw p), .int .i64 16, .int .u64 (r0 : Nat), .int .u64 (r1 : Nat), .int .i64 (x : Nat)] 55)) _ 53 2 (Ext.refl _ No)
    rw [show (w.alloc (.cells #[.int .u64 (lw p), .int .u64 (hw p), .int .i64 16, .int .u64 (r0 : Nat), .int .u64 (r1 : Nat), .int .i64 (x : Nat)] 55)).heap.size = w.heap.size + 1 from by simp] at hg0
    rw [hlen]
    have HL := Lib.hid hlen; clear hlen
    have HC := Lib.hid hcl; clear hcl
    have HX := Lib.hid hxx; clear hxx
    have HF := Lib.hid hfb; clear hfb
    have HG0 := Lib.hid hg0; clear hg0
    clear hmc hc
    unfold fieldV
    rw [show (((16 : Nat) : Int)) = 16 from rfl]
    have c2 := blk_cell HF.out 2
    have c0 := blk_cell HF.out 0
    have c1 := blk_cell HF.out 1
    go_enter Tryz.func22, Tryz.ntmps22
    go_wp2
    go_loopw [8, 9] (fun v i wr => ∃ k : Nat, k ≤ n ∧ i = .int .i64 k ∧ Hid (Gro (w.alloc (.cells #[.int .u64 (lw p), .int .u64 (hw p), .int .i64 16, .int .u64 (r0 : Nat), .int .u64 (r1 : Nat), .int .i64 (x : Nat)] 55)) 53 2 v k (vecC enc128 (chunks 16 k l)) wr) ∧ Hid (∀ i, i < k → chunk 16 l i < p)) (fun _ i _ => n - (intOf i).toNat)
    case atStart => exact ⟨0, by omega, rfl, HG0, fun i hi => by omega⟩
    case round =>
      obtain ⟨k, hk, rfl, hR, hP⟩ := hrel
      obtain ⟨w1, hw1⟩ : ∃ w1, w1 = wr := ⟨_, rfl⟩
      subst hw1
      by_cases hkn : k = n
      · subst hkn
        go_wp2
        go_ret2
        have hgd : good 16 p k l := ⟨(okN_iff _ _ _ _).2 ⟨by rw [HL.out]; exact Nat.le_refl _, hP.out⟩, HL.out⟩
        exact ⟨HX.out.transNo hR.out.2.1, fun _ => ⟨_, rfl, hR.out.base HX.out⟩, fun h => absurd hgd h⟩
      · have hlk : k < n := by omega
        have q2 := hR.out.2.1.cellNo c2
        have q0 := hR.out.2.1.cellNo c0
        have q1 := hR.out.2.1.cellNo c1
        go_wp2
        go_loopw [11] (fun i w2 => ∃ j : Nat, j ≤ 16 ∧ i = .int .i64 j ∧ Ext w1 w2 No ∧ Hid (w2.heap[w1.heap.size]? = some (.cells #[.int .u64 (lw (part 16 l k j)), .int .u64 (hw (part 16 l k j))] 53 (0, 0)))) (fun i _ => 16 - (intOf i).toNat)
        case atStart =>
          refine ⟨0, by omega, rfl, ?_, ?_⟩
          · exact (Ext.refl w1 No).alloc _
          · have h := blk_new w1 (.cells #[.int .u64 0, .int .u64 0] 53)
            rw [show part 16 l k 0 = 0 from rfl, show lw 0 = 0 from rfl, show hw 0 = 0 from rfl]
            exact h
        case round =>
          obtain ⟨j, hj, rfl, hx2, hb2⟩ := hrel
          have q3 := hx2.cellNo q2
          by_cases hjn : j = 16
          · subst hjn
            have p0 := hx2.cellNo q0
            have p1 := hx2.cellNo q1
            have e0 := blk_cell hb2.out 0
            have e1 := blk_cell hb2.out 1
            rw [show part 16 l k 16 = chunk 16 l k from rfl] at e0 e1
            have e0' : wr.cell? ⟨w1.heap.size, 0, none⟩ = some (.int .u64 (lw (chunk 16 l k))) := e0
            have e1' : wr.cell? ⟨w1.heap.size, 1, none⟩ = some (.int .u64 (hw (chunk 16 l k))) := e1
            clear e0 e1
            by_cases hV : chunk 16 l k < p
            · have D := decide_eq_true hV
              have HD := Lib.hid D; clear D
              go_wp2_with (first
                | (go_at_call 40; refine (specLess' _ _ _).mono ?_; rintro e w3 ⟨rfl, hx3⟩; rw [HD.out]; have e30 := hx3.cellNo e0'; have e31 := hx3.cellNo e1'; have HX3 := Lib.hid hx3; clear hx3)
                | ((with_reducible refine at_dst 63 ?_); refine wpList_append_two _ _ rfl (.tmp 60) (.tmp 62) rfl u8 k _ rfl (hR.out.extNo ((hx2.transNo HX3.out).alloc _)) ⟨w3.heap.size, 0, none⟩ (chunk 16 l k) 1 rfl (blk_cell (blk_new _ _) 0) (blk_cell (blk_new _ _) 1) (by omega) ?_; intro v' w' hG; have HG := Lib.hid hG; clear hG))
              refine ⟨⟨k + 1, by omega, by go_num, ?_, ?_⟩, by simp [intOf]; omega⟩
              · have h := HG.out
                rw [chunks_snoc, vecC_snoc]
                exact h
              · intro i hi
                by_cases hik : i = k
                · subst hik; exact hV
                · exact hP.out i (by omega)
            · have D := decide_eq_false hV
              have HD := Lib.hid D; clear D
              go_wp2_with (go_at_call 40; refine (specLess' _ _ _).mono ?_; rintro e w3 ⟨rfl, hx3⟩; rw [HD.out]; have HX3 := Lib.hid hx3; clear hx3)
              go_ret2
              exact ⟨(HX.out.transNo hR.out.2.1).transNo (hx2.transNo HX3.out), fun h => absurd (good_chunk h k hlk) hV, fun _ => rfl⟩
          · have hlj : j < 16 := by omega
            have h1 : k * 16 + j < n * 16 := by
              have h1 : (k + 1) * 16 ≤ n * 16 := Nat.mul_le_mul_right _ hlk
              rw [Nat.add_mul, Nat.one_mul] at h1
              omega
            have hbyte : wr.cell? ⟨b, o + (k * 16 + j), none⟩ = some (.int .u8 (l.getD (k * 16 + j) 0 : Nat)) :=
              hx2.cellNo (hR.out.2.1.cellNo (HX.out.cellNo (HC.out _ (by rw [HL.out]; exact h1))))
            by_cases h8 : j < 8
            · skip
              obtain ⟨y, hy, hyn⟩ : ∃ y : Int, wr.cell? ⟨w1.heap.size, j / 8, none⟩ = some (.int .u64 y) ∧ Hid (y = lw (part 16 l k j)) := by
                exact ⟨_, by rw [show j / 8 = 0 from by omega]; exact blk_cell hb2.out 0, rfl⟩
              have fy := blk_frz hb2.out (j / 8)
              have i0 : (0 : Int) ≤ (j : Int) / 8 := by omega
              have i1 : (j : Int) / 8 < 2 := by omega
              have i2 : (0 : Int) ≤ (k : Int) * 16 + (j : Int) := by omega
              have i3 : (k : Int) * 16 + (j : Int) < (n : Int) * 16 := by omega
              generalize hbb : l.getD (k * 16 + j) 0 = bb at *
              go_wp2_with fail
              go_region
              go_wp2
              have hbl := blk_set hb2.out (j / 8) (.int .u64 (bits .or .u64 y (IntKind.u64.wrap (IntKind.u64.wrap (bb : Int) * 2 ^ (8 * (j % 8))))))
              have le : w1.heap.size ≤ w1.heap.size := Nat.le_refl _
              refine ⟨⟨j + 1, by omega, by go_num, (hx2.set (.inl le) _).drew, ?_⟩, by simp [intOf]; omega⟩
              refine hbl.trans ?_
              have hps := part_snoc (sz := 16) (j := j) (k := k) HL.out hlk hlj
              rw [hbb] at hps
              have hV : part 16 l k j < 256 ^ j := part_lt HLT.out
              have hb256 : bb < 256 := by rw [← hbb]; exact getD_lt l HLT.out _
              rw [hps]
              obtain ⟨s1, s2⟩ := step_lo _ bb j h8 hV hb256
              rw [hyn.out, s1, s2, show j / 8 = 0 from by omega]
              rfl
            · skip
              obtain ⟨y, hy, hyn⟩ : ∃ y : Int, wr.cell? ⟨w1.heap.size, j / 8, none⟩ = some (.int .u64 y) ∧ Hid (y = hw (part 16 l k j)) := by
                exact ⟨_, by rw [show j / 8 = 1 from by omega]; exact blk_cell hb2.out 1, rfl⟩
              have fy := blk_frz hb2.out (j / 8)
              have i0 : (0 : Int) ≤ (j : Int) / 8 := by omega
              have i1 : (j : Int) / 8 < 2 := by omega
              have i2 : (0 : Int) ≤ (k : Int) * 16 + (j : Int) := by omega
              have i3 : (k : Int) * 16 + (j : Int) < (n : Int) * 16 := by omega
              generalize hbb : l.getD (k * 16 + j) 0 = bb at *
              go_wp2_with fail
              go_region
              go_wp2
              have hbl := blk_set hb2.out (j / 8) (.int .u64 (bits .or .u64 y (IntKind.u64.wrap (IntKind.u64.wrap (bb : Int) * 2 ^ (8 * (j % 8))))))
              have le : w1.heap.size ≤ w1.heap.size := Nat.le_refl _
              refine ⟨⟨j + 1, by omega, by go_num, (hx2.set (.inl le) _).drew, ?_⟩, by simp [intOf]; omega⟩
              refine hbl.trans ?_
              have hps := part_snoc (sz := 16) (j := j) (k := k) HL.out hlk hlj
              rw [hbb] at hps
              have hV : part 16 l k j < 256 ^ j := part_lt HLT.out
              have hb256 : bb < 256 := by rw [← hbb]; exact getD_lt l HLT.out _
              rw [hps]
              obtain ⟨i, rfl⟩ : ∃ i, j = i + 8 := ⟨j - 8, by omega⟩
              obtain ⟨s1, s2⟩ := step_hi _ bb i (by omega) hV hb256
              rw [hyn.out, s1, s2, show (i + 8) / 8 = 1 from by omega]
              rfl
  · have HNG : Hid (¬ good 16 p n l) := fun hg => hlen hg.2
    have d1 : ((l.length : Int) == (n : Int) * 16) = false := by simp; omega
    have d2 : (l.length == n * 16) = false := by simpa using hlen
    have d3 : decide ((l.length : Int) = (n : Int) * 16) = false := decide_eq_false (by omega)
    generalize l.length = L at *
    unfold fieldV
    rw [show (((16 : Nat) : Int)) = 16 from rfl]
    go_enter Tryz.func22, Tryz.ntmps22
    go_wp2
    go_ret2
    exact ⟨(Ext.refl w No).alloc _, fun h => absurd h HNG.out, fun _ => rfl⟩
end Go.Proofs.YtlmmdldjfpdcfaaGreatDoor
