/-
  THE SHELL OF A PROOF OF 'Rows.FnIsStringJoinAtAnyCutSaid' ('example.com/portcullis/portcullis/zzlaws_internal_mcp_b1.FnIsStringJoinAtAnyCut'), WRITTEN BY PROGRAM (proof-skeleton.mjs, third state) off the guide's own print for that function. Not trusted: Lean checks it.
  The walk is ours; all else is the guide's frame.
-/
import Derived.Test.Qxb6615658aRows
import Derived.WalkKit
import Derived.ProofKit
import Derived.OpenShut
import Derived.ShutString
import Derived.ChangeOld
import Derived.Below
import Derived.Deep.DeepCutAuto
import Derived.Test.Qxb6615658aBytes
namespace Go.Proofs.Qxb6615658a.fnIsStringJoinAtAnyCut
open Go.ChangeShapes Go.WideShapes Go.ChangeAt Go.RowKit
open Go.ChangeMaps (open_string shut_string)
set_option linter.unusedVariables false

theorem own : ownKnob Try.prog.godebug = none := by kernel_rfl
theorem laidOut : laidOutB Try.prog = true := by kernel_rfl

/-- WHAT THE WALK IS TOLD OF A SLICE OF INTEGERS THAT CAME IN: it is nil; or it leads to a row of 'cap' cells, the numbers 'zs' (the first 'len' are its elements, the rest its spare room), each fitting its kind. -/
def IsRow (k : IntKind) (w : World) (a : Option Addr) (len cap : Nat) (zs : List Int) : Prop :=
  (a = none ∧ len = 0 ∧ cap = 0 ∧ zs = []) ∨
  ∃ x, a = some x ∧ len ≤ cap ∧ cap ≤ maxLen ∧ zs.length = cap ∧ (∀ i, i < zs.length → w.cell? (x.add i) = some (.int k (zs.getD i 0))) ∧ ∀ n ∈ zs, (Lit.int k n).wf = true

theorem IsRow.sl {w : World} {a : Option Addr} {len cap : Nat} {zs : List Int} (h : IsRow .u8 w a len cap zs) : Bytes.Sl w a len (zs.take len) ∧ len ≤ maxLen ∧ (a = none → len = 0) := by
  rcases h with ⟨rfl, rfl, rfl, rfl⟩ | ⟨x, rfl, hl, hm, hz, hcell, -⟩
  · exact ⟨⟨rfl, fun h => by omega⟩, by unfold maxLen; omega, fun _ => rfl⟩
  · refine ⟨⟨by simp; omega, fun hn => ?_⟩, by omega, fun h => by cases h⟩
    obtain ⟨b, o, sp⟩ := x
    have hs : sp = none := by simpa [Addr.add] using World.cell?_spot (hcell 0 (by omega))
    subst hs
    refine ⟨b, o, rfl, World.block_lt_of_cell? w _ (hcell 0 (by omega)), fun i hi => ?_⟩
    have := hcell i (by omega)
    rw [Addr.add_lit] at this
    rw [this]
    simp [List.getD, hi]

set_option maxHeartbeats 1000000 in
theorem walk (a0 : Option Addr) (len0 cap0 : Nat) (z0 : List Int) (a1 : Option Addr) (len1 cap1 : Nat) (z1 : List Int) (w : World) (w0 : IsRow .u8 w a0 len0 cap0 z0) (w1 : IsRow .u8 w a1 len1 cap1 z1) :
    Calls Try.prog 6 #[.slice a0 len0 cap0, .slice a1 len1 cap1] w fun e w' => e = .returned (.bool true) ∧ Below w.heap.size w w' := by
  obtain ⟨s0, m0, e0⟩ := w0.sl
  obtain ⟨s1, m1, e1⟩ := w1.sl
  generalize z0.take len0 = xs at s0
  generalize z1.take len1 = ys at s1
  clear w0 w1 z0 z1
  unfold maxLen at m0 m1
  by_cases hs : len0 + len1 ≤ 1048576
  case neg =>
    have hd : decide (len0 + len1 ≤ 1048576) = false := by simpa using hs
    go_enter Try.func6, Try.ntmps6
    go_wp2_with (go_at_call 14; refine (Bytes.zz14 _ _ _ _ _ _ _ m0 m1).mono ?_; rintro e w' ⟨rfl, rfl⟩)
    go_ret
    exact ⟨rfl, Below.refl _ _⟩
  have hd : decide (len0 + len1 ≤ 1048576) = true := by simpa using hs
  by_cases h0 : len0 ≤ 524288
  case neg =>
    go_enter Try.func6, Try.ntmps6
    go_wp2_with (go_at_call 14; refine (Bytes.zz14 _ _ _ _ _ _ _ m0 m1).mono ?_; rintro e w' ⟨rfl, rfl⟩)
    go_ret
    exact ⟨rfl, Below.refl _ _⟩
  by_cases h1 : len1 ≤ 524288
  case neg =>
    go_enter Try.func6, Try.ntmps6
    go_wp2_with (go_at_call 14; refine (Bytes.zz14 _ _ _ _ _ _ _ m0 m1).mono ?_; rintro e w' ⟨rfl, rfl⟩)
    go_ret
    exact ⟨rfl, Below.refl _ _⟩
  obtain ⟨i0, hi, hz0, hz1, hz2⟩ := info_parts Bytes.info5
  have hnn := fun w a n c => run_neq_slice_nil_any (P := Try.prog) w 25 5 a n c 0 0 Try.underlying25
  go_enter Try.func6, Try.ntmps6
  go_upto_if 23 with (go_at_call 14; refine (Bytes.zz14 _ _ _ _ _ _ _ m0 m1).mono ?_; rintro e w' ⟨rfl, rfl⟩)
  go_cut [0, 5] (fun v0 v5 w2 => ∃ A C, v0 = .slice A len0 C ∧ Bytes.Sl w2 A len0 xs ∧ Below w.heap.size w w2)
  case first =>
    cases a0 with
    | none =>
      have E0 : Hid (len0 = 0) := e0 rfl
      clear e0
      go_wp2
      go_meet
      case rel => exact ⟨_, _, rfl, s0, Below.refl _ _⟩
    | some x =>
      go_wp2_with (at_make; refine wpList_make_full _ rfl _ _ 25 rfl w.heap.size 5 i0 (.int .u8 0) 1 Try.underlying25 hi hz0 hz1 _ _ _ _ len0 rfl rfl (by omega) (by omega) (by rw [hz2]; omega) (by unfold maxLen; omega) (Nat.le_refl _) ?_; intro w1 hown hgrow; obtain ⟨w2, hcp, hb2, s2⟩ := Bytes.copied (c := cap0) s0 hown hgrow; clear hown hgrow)
      go_meet
      case rel => exact ⟨_, _, rfl, s2, hb2⟩
  case rest =>
    obtain ⟨A, C, rfl, sA, hB⟩ := hcut
    clear s0 e0
    have sB := s1.below hB
    clear s1
    go_upto_if 32 with fail
    go_cut [1, 6] (fun v0 v5 w2 => ∃ A' C', v0 = .slice A' len1 C' ∧ Bytes.Sl w2 A' len1 ys ∧ Bytes.Sl w2 A len0 xs ∧ Below w.heap.size w w2)
    case first =>
      cases a1 with
      | none =>
        have E0 : Hid (len1 = 0) := e1 rfl
        clear e1
        go_wp2
        go_meet
        case rel => exact ⟨_, _, rfl, sB, sA, hB⟩
      | some x =>
        go_wp2_with (at_make; refine wpList_make_full _ rfl _ _ 25 rfl wc.heap.size 5 i0 (.int .u8 0) 1 Try.underlying25 hi hz0 hz1 _ _ _ _ len1 rfl rfl (by omega) (by omega) (by rw [hz2]; omega) (by unfold maxLen; omega) (Nat.le_refl _) ?_; intro w1 hown hgrow; obtain ⟨w2, hcp, hb2, s2⟩ := Bytes.copied (c := cap1) sB hown hgrow; clear hown hgrow)
        go_meet
        case rel => exact ⟨_, _, rfl, s2, sA.below hb2, hB.trans (hb2.mono hB.size)⟩
    case rest =>
      clear sA sB hB
      obtain ⟨A', C', rfl, sB, sA, hB⟩ := hcut
      clear e1 hi hz0 hz1 hz2 hnn
      go_wp2_with fail
      refine (Bytes.join_any _ _ _ _ _ _ xs ys _ (by omega) (by omega) sA sB).mono ?_
      rintro e w1 ⟨g1, rfl, hb1, sAB⟩
      have hB1 := hB.trans (hb1.mono hB.size)
      have sA1 := sA.below hb1
      have sB1 := sB.below hb1
      clear sA sB hb1 hB
      go_wp2_with fail
      refine (Bytes.isStr _ _ _ ys _ (by omega) sB1).mono ?_
      rintro e w' ⟨rfl, rfl⟩
      by_cases hpos : 0 < len0
      · have HE : Hid (Bytes.strB (xs ++ ys) = Bytes.strB xs) := Bytes.strB_join_pos (by rw [sA1.1]; exact hpos)
        go_wp2_with fail
        refine (Bytes.isStr _ _ _ xs _ (by omega) sA1).mono ?_
        rintro e w' ⟨rfl, rfl⟩
        go_wp2_with fail
        refine (Bytes.isStr _ _ _ (xs ++ ys) _ (by omega) sAB).mono ?_
        rintro e w' ⟨rfl, rfl⟩
        rw [HE.out]
        go_wp2_with fail
        have hb2 : Below w1.heap.size w1 (w1.alloc (.cells #[.int .u8 34] 5)) := (Below.refl _ _).alloc (Nat.le_refl _) _
        have sA2 := sA1.below hb2
        have sAB2 := sAB.below hb2
        refine (Bytes.join_any _ _ _ _ _ _ [34] xs _ (by omega) (by omega) (Bytes.Sl_one w1 34) sA2).mono ?_
        rintro e w3 ⟨g3, rfl, hb3, s3⟩
        have sq3 := (Bytes.Sl_one w1 34).below hb3
        have sAB3 := sAB2.below hb3
        have hB3 := (hB1.trans (hb2.mono hB1.size)).trans (hb3.mono (by have := hB1.size; simp; omega))
        clear hb2 hb3 sA2 sA1 hB1 sB1 sAB sAB2
        go_wp2_with fail
        refine (Bytes.join_any _ _ _ _ _ _ ([34] ++ xs) [34] _ (by omega) (by omega) s3 sq3).mono ?_
        rintro e w5 ⟨g5, rfl, hb5, s5⟩
        have hB5 := hB3.trans (hb5.mono hB3.size)
        have sAB5 := sAB3.below hb5
        clear hb5 s3 sq3 hB3 sAB3
        go_wp2_with fail
        refine (Bytes.isStr _ _ _ ([34] ++ xs ++ [34]) _ (by omega) s5).mono ?_
        rintro e w' ⟨rfl, rfl⟩
        rw [show Bytes.strB ([34] ++ xs ++ [34]) = true from rfl]
        clear s5
        cases hp : Bytes.strB xs with
        | true =>
          have hnb : Bytes.numB (xs ++ ys) = false := Bytes.not_both _ (by rw [HE.out]; exact hp)
          have HN : Hid (Bytes.numB (xs ++ ys) = false) := hnb
          clear hnb hp
          go_wp2_with fail
          refine (Bytes.isNum _ _ _ (xs ++ ys) _ (by omega) sAB5).mono ?_
          rintro e w' ⟨rfl, rfl⟩
          rw [HN.out]
          go_wp2_with fail
          go_ret
          exact ⟨rfl, hB5⟩
        | false =>
          clear hp
          go_wp2_with fail
          go_ret
          exact ⟨rfl, hB5⟩
      · have HE : Hid (Bytes.strB (xs ++ ys) = Bytes.strB ys) := by rw [Bytes.join_nil (xs := xs) (by rw [sA1.1]; omega)]; rfl
        go_wp2_with fail
        refine (Bytes.isStr _ _ _ (xs ++ ys) _ (by omega) sAB).mono ?_
        rintro e w' ⟨rfl, rfl⟩
        rw [HE.out]
        go_wp2_with fail
        have hb2 : Below w1.heap.size w1 (w1.alloc (.cells #[.int .u8 34] 5)) := (Below.refl _ _).alloc (Nat.le_refl _) _
        have sA2 := sA1.below hb2
        have sAB2 := sAB.below hb2
        refine (Bytes.join_any _ _ _ _ _ _ [34] xs _ (by omega) (by omega) (Bytes.Sl_one w1 34) sA2).mono ?_
        rintro e w3 ⟨g3, rfl, hb3, s3⟩
        have sq3 := (Bytes.Sl_one w1 34).below hb3
        have sAB3 := sAB2.below hb3
        have hB3 := (hB1.trans (hb2.mono hB1.size)).trans (hb3.mono (by have := hB1.size; simp; omega))
        clear hb2 hb3 sA2 sA1 hB1 sB1 sAB sAB2
        go_wp2_with fail
        refine (Bytes.join_any _ _ _ _ _ _ ([34] ++ xs) [34] _ (by omega) (by omega) s3 sq3).mono ?_
        rintro e w5 ⟨g5, rfl, hb5, s5⟩
        have hB5 := hB3.trans (hb5.mono hB3.size)
        have sAB5 := sAB3.below hb5
        clear hb5 s3 sq3 hB3 sAB3
        go_wp2_with fail
        refine (Bytes.isStr _ _ _ ([34] ++ xs ++ [34]) _ (by omega) s5).mono ?_
        rintro e w' ⟨rfl, rfl⟩
        rw [show Bytes.strB ([34] ++ xs ++ [34]) = true from rfl]
        clear s5
        cases hp : Bytes.strB ys with
        | true =>
          have hnb : Bytes.numB (xs ++ ys) = false := Bytes.not_both _ (by rw [HE.out]; exact hp)
          have HN : Hid (Bytes.numB (xs ++ ys) = false) := hnb
          clear hnb hp
          go_wp2_with fail
          refine (Bytes.isNum _ _ _ (xs ++ ys) _ (by omega) sAB5).mono ?_
          rintro e w' ⟨rfl, rfl⟩
          rw [HN.out]
          go_wp2_with fail
          go_ret
          exact ⟨rfl, hB5⟩
        | false =>
          clear hp
          go_wp2_with fail
          go_ret
          exact ⟨rfl, hB5⟩

/-! ### THE ROW's STEP: WRITTEN OUT: LEAVE IT -/
set_option maxRecDepth 100000 in
theorem lifted (os : Os) (started : os.Started) (H : Type) (enc : TypeId × Value → H) :
    ReturnsInHanded {} Try.checked os 6 .any (Rows.fnIsStringJoinAtAnyCutSpec.pre6 enc Try.prog Try.f6 Rows.fnIsStringJoinAtAnyCutRow.domain false) (Rows.fnIsStringJoinAtAnyCutSpec.post enc Try.prog Try.f6 false true false false) := by
  refine returnsInHanded_of_change (C := Try.checked) own started (by kernel_rfl) Try.func6
    (ChangeSpec.witness6 (enc := enc) (C := Try.checked) false ⟨#[], #[.slice none 0 0, .slice none 0 0], []⟩ 8 (by kernel_rfl) (by kernel_rfl) (by kernel_rfl) (by kernel_rfl)) ?_
  intro W base args ds gs before hval0 hW hcnd _
  have hval : ∀ (j : Nat) t v, Try.f6.params[j]? = some t → args[j]? = some v → Value.okWide Try.prog W .any base t v := hval0
  have hW' := hW
  obtain ⟨p, q, hA0, hV, rfl, hfz, hnd⟩ := hW
  have hA : DataW.TrodAll enc Try.prog W 0 (fun _ => true) true Try.f6.params.toList args.toList ds p := hA0
  rw [Try.params6] at hA hval
  obtain ⟨v0, vs0, d0, ds0, p0, q0, hargs, rfl, rfl, h0, r0⟩ := trodAll_cons hA
  obtain ⟨v1, vs1, d1, ds1, p1, q1, rfl, rfl, rfl, h1, r1⟩ := trodAll_cons r0
  obtain ⟨rfl, rfl, rfl⟩ := trodAll_nil r1
  obtain rfl : args = #[v0, v1] := by cases args; simp_all
  obtain ⟨rfl, rfl⟩ := trodVars_none hV
  obtain ⟨a0, len0, cap0, rfl⟩ := okWide_slice Try.underlying25 (hval 0 25 v0 rfl rfl)
  have k0 := h0
  have lt0 : ∀ x ∈ p0, x.block < W.heap.size := by obtain ⟨m, hm⟩ := k0; exact DataW.trod_lt m _ _ _ hm
  obtain ⟨z0, w0⟩ : ∃ zs, IsRow .u8 W a0 len0 cap0 zs := by
    obtain ⟨fuel, hf⟩ := h0
    rcases open_ints Try.underlying25 Try.underlying5 (by kernel_rfl) hf with ⟨hcs, _⟩ | ⟨x, l, c, zs, hcs, _, hl, hm, hz, _, hcell, hwz⟩
    · simp [Value.cells] at hcs
      obtain ⟨rfl, rfl, rfl⟩ := hcs
      exact ⟨[], .inl ⟨rfl, rfl, rfl, rfl⟩⟩
    · simp [Value.cells] at hcs
      obtain ⟨rfl, rfl, rfl⟩ := hcs
      exact ⟨zs, .inr ⟨_, rfl, hl, hm, by simpa using hz, hcell, hwz⟩⟩
  obtain ⟨a1, len1, cap1, rfl⟩ := okWide_slice Try.underlying25 (hval 1 25 v1 rfl rfl)
  have k1 := h1
  have lt1 : ∀ x ∈ p1, x.block < W.heap.size := by obtain ⟨m, hm⟩ := k1; exact DataW.trod_lt m _ _ _ hm
  obtain ⟨z1, w1⟩ : ∃ zs, IsRow .u8 W a1 len1 cap1 zs := by
    obtain ⟨fuel, hf⟩ := h1
    rcases open_ints Try.underlying25 Try.underlying5 (by kernel_rfl) hf with ⟨hcs, _⟩ | ⟨x, l, c, zs, hcs, _, hl, hm, hz, _, hcell, hwz⟩
    · simp [Value.cells] at hcs
      obtain ⟨rfl, rfl, rfl⟩ := hcs
      exact ⟨[], .inl ⟨rfl, rfl, rfl, rfl⟩⟩
    · simp [Value.cells] at hcs
      obtain ⟨rfl, rfl, rfl⟩ := hcs
      exact ⟨zs, .inr ⟨_, rfl, hl, hm, by simpa using hz, hcell, hwz⟩⟩
  clear hA0 hval0
  refine (walk a0 len0 cap0 z0 a1 len1 cap1 z1 W w0 w1).mono fun e W' ⟨he, bel⟩ => ?_
  subst he
  exact ⟨_, rfl, _, _, _, [], _, [], hW', trodAll_mk1 (shut_bool Try.underlying4 _), (trodAll_cons_mk (Below.trod laidOut (by kernel_rfl) (of_decide_eq_true (by kernel_rfl)) k0 bel lt0) (trodAll_cons_mk (Below.trod laidOut (by kernel_rfl) (of_decide_eq_true (by kernel_rfl)) k1 bel lt1) trodAll_mk0)), rfl, bel.frame _, fun h => by cases h⟩

theorem over : Rows.fnIsStringJoinAtAnyCutRow.holds Try.pinned (OpenSpec.ofChange Rows.fnIsStringJoinAtAnyCutSpec) :=
  OpenClaim.holds_of_wide 6 Try.f6 rfl rfl rfl rfl rfl rfl rfl ⟨rfl, rfl, rfl, rfl, rfl⟩ rfl rfl rfl rfl rfl (by kernel_rfl) Try.func6 (by kernel_rfl)
    (of_decide_eq_true (by kernel_rfl)) (by unfold Func.isWrapper; first | (rw [if_pos (by decide +kernel)]; kernel_rfl) | (rw [if_neg (by decide +kernel)]; exact ⟨rfl, rfl⟩))
    (fun os started H enc _ => lifted os started H enc)

/-- ████ THE STATEMENT ████ -/
theorem proved : Rows.FnIsStringJoinAtAnyCutSaid := over
#print axioms proved
end Go.Proofs.Qxb6615658a.fnIsStringJoinAtAnyCut
