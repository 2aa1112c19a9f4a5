/-
  The walk of FnIsStringIsNumberFirstByteCensus, over the contracts of Qxb6615658aBytes.
-/
import Derived.Test.Qxb6615658aBytes
import Derived.Deep.DeepCutAuto
import Derived.Deep.QuietTactic
import Derived.BigQuiet
namespace Go.Proofs.Qxb6615658a.Census
open Go.RowKit
set_option linter.unusedVariables false

def Z27 : Array Value := Array.replicate 256 (.bool false)
theorem zero27 (w : World) : (zeroValue 27).run Try.prog w = .ok (.agg Z27) w := by kernel_rfl

/-! ### A block that is known whole -/
def Row (w : World) (g : Nat) (T : TypeId) (cs : List Value) : Prop := w.heap[g]? = some (.cells cs.toArray T (0, 0))

theorem Row.cell {w : World} {g : Nat} {T : TypeId} {cs : List Value} (h : Row w g T cs) (j : Nat) : w.cell? ⟨g, j, none⟩ = cs[j]? := by
  rw [cell_of_row w g j _ T (0, 0) h]; simp
theorem Row.frozen {w : World} {g : Nat} {T : TypeId} {cs : List Value} (h : Row w g T cs) (j : Nat) : w.frozen? ⟨g, j, none⟩ = false := frozen_of_row w g j _ T h
theorem Row.set {w : World} {g : Nat} {T : TypeId} {cs : List Value} (h : Row w g T cs) (k : Nat) (v : Value) : Row (w.setCell ⟨g, k, none⟩ v) g T (cs.set k v) := by
  have := heap_setCell_same w g k _ T v h
  unfold Row; rw [this]; simp
theorem Row.other {w : World} {g : Nat} {T : TypeId} {cs : List Value} (h : Row w g T cs) {g' : Nat} (k : Nat) (v : Value) (hne : g ≠ g') : Row (w.setCell ⟨g', k, none⟩ v) g T cs := by
  unfold Row; rw [heap_setCell_other w ⟨g', k, none⟩ g v hne]; exact h
theorem Row.lt {w : World} {g : Nat} {T : TypeId} {cs : List Value} (h : Row w g T cs) : g < w.heap.size := lt_of_block h
theorem Row.alloc {w : World} {g : Nat} {T : TypeId} {cs : List Value} (h : Row w g T cs) (o : Obj) : Row (w.alloc o) g T cs := by
  unfold Row; rw [Below.heap_alloc w o g h.lt]; exact h
theorem Row.new (w : World) (T : TypeId) (cs : List Value) : Row (w.alloc (.cells cs.toArray T)) w.heap.size T cs := heap_alloc_new w _

theorem row_made {w : World} {base g n : Nat} (h : w.ownsRow base 5 1 (.slice (some ⟨g, 0, none⟩) n n) n (madeCells (Value.int .u8 0).cells (n * 1)).toList) :
    ∃ L : List Int, L.length = n ∧ Row w g 5 (L.map (Value.int .u8)) := by
  rcases h.2 with ⟨h', _⟩ | ⟨g', cap', cur, h', _, hg, _, _, hcs, htake⟩
  · simp at h'
  · simp only [Value.slice.injEq, Option.some.injEq, Addr.mk.injEq, and_true, true_and] at h'
    obtain ⟨rfl, rfl⟩ := h'
    refine ⟨List.replicate n 0, by simp, ?_⟩
    have e : cur.toList = (List.replicate n 0).map (Value.int .u8) := by
      rw [List.take_of_length_le (by rw [Array.length_toList, hcs]; exact Nat.le_refl _)] at htake
      rw [htake]
      simp only [Nat.mul_one, Value.cells, toList_madeCells_one]
      simp
    show w.heap[g]? = _
    rw [hg, ← e]

/-! ### The two tables after k rounds -/
def tabS (k : Nat) : List Value := (List.range 256).map fun j => .bool (decide (j < k) && decide (j = 34))
def tabN (k : Nat) : List Value := (List.range 256).map fun j => .bool (decide (j < k) && (decide (j = 45) || (decide (48 ≤ j) && decide (j ≤ 57))))

theorem Z27_S : Z27 = (tabS 0).toArray := by kernel_rfl
theorem Z27_N : Z27 = (tabN 0).toArray := by kernel_rfl

theorem tabS_at (k j : Nat) (h : j < 256) : (tabS k)[j]? = some (.bool (decide (j < k) && decide (j = 34))) := by
  simp [tabS, h]
theorem tabN_at (k j : Nat) (h : j < 256) : (tabN k)[j]? = some (.bool (decide (j < k) && (decide (j = 45) || (decide (48 ≤ j) && decide (j ≤ 57))))) := by
  simp [tabN, h]
theorem tabS_set (k : Nat) (h : k < 256) (b : Bool) (hb : b = decide (k = 34)) : (tabS k).set k (.bool b) = tabS (k + 1) := by
  apply List.ext_getElem?
  intro j
  rw [List.getElem?_set]
  by_cases hj : j < 256
  · rw [tabS_at _ _ hj]
    by_cases e : k = j
    · subst e; simp [tabS, h, hb]
    · rw [if_neg e, tabS_at _ _ hj]
      have : decide (j < k + 1) = decide (j < k) := by rw [decide_eq_decide]; omega
      rw [this]
  · rw [if_neg (by omega)]; simp [tabS, hj]
theorem tabN_set (k : Nat) (h : k < 256) (b : Bool) (hb : b = (decide (k = 45) || (decide (48 ≤ k) && decide (k ≤ 57)))) : (tabN k).set k (.bool b) = tabN (k + 1) := by
  apply List.ext_getElem?
  intro j
  rw [List.getElem?_set]
  by_cases hj : j < 256
  · rw [tabN_at _ _ hj]
    by_cases e : k = j
    · subst e; simp [tabN, h, hb]
    · rw [if_neg e, tabN_at _ _ hj]
      have : decide (j < k + 1) = decide (j < k) := by rw [decide_eq_decide]; omega
      rw [this]
  · rw [if_neg (by omega)]; simp [tabN, hj]

def nS (k : Nat) : Nat := if 34 < k then 1 else 0
def nN (k : Nat) : Nat := (if 45 < k then 1 else 0) + (min k 58 - 48)

theorem nS_le (k : Nat) : nS k ≤ 1 := by unfold nS; split <;> omega
theorem nN_le (k : Nat) : nN k ≤ 11 := by unfold nN; split <;> omega

theorem Row.sl {w : World} {g N : Nat} {L : List Int} (h : Row w g 5 (L.map (Value.int .u8))) (hL : L.length = N) : Bytes.Sl w (some ⟨g, 0, none⟩) N L := by
  refine ⟨hL, fun _ => ⟨g, 0, rfl, h.lt, fun i hi => ?_⟩⟩
  rw [Nat.zero_add, h.cell]
  simp [List.getD, show i < L.length by omega]

theorem sl_drewN {w : World} {a : Option Addr} {n : Nat} {zs : List Int} (h : Bytes.Sl w a n zs) (k : Nat) : Bytes.Sl (w.drewN k) a n zs := h

theorem upd {w0 w : World} {gB gS c : Nat} {X : List Value} {bS bN : Bool} (hc : c < 256) (h1 : bS = decide (c = 34)) (h2 : bN = (decide (c = 45) || (decide (48 ≤ c) && decide (c ≤ 57)))) (hg : gB < gS)
    (R : Row w gB 5 X) (S : Row w gS 27 (tabS c)) (N : Row w (gS + 1) 27 (tabN c)) (B : Below gB w0 w) :
    Hid (Row ((w.setCell ⟨gS, c, none⟩ (.bool bS)).setCell ⟨gS + 1, c, none⟩ (.bool bN)) gB 5 X ∧ Row ((w.setCell ⟨gS, c, none⟩ (.bool bS)).setCell ⟨gS + 1, c, none⟩ (.bool bN)) gS 27 (tabS (c + 1)) ∧
      Row ((w.setCell ⟨gS, c, none⟩ (.bool bS)).setCell ⟨gS + 1, c, none⟩ (.bool bN)) (gS + 1) 27 (tabN (c + 1)) ∧ Below gB w0 ((w.setCell ⟨gS, c, none⟩ (.bool bS)).setCell ⟨gS + 1, c, none⟩ (.bool bN))) := by
  refine ⟨(R.other _ _ (by omega)).other _ _ (by omega), ?_, ?_, (B.setCell (by simp; omega) _).setCell (by simp; omega) _⟩
  · have h := (S.set c (.bool bS)).other (g' := gS + 1) c (.bool bN) (by omega)
    rwa [tabS_set c hc bS h1] at h
  · have h := (N.other (g' := gS) c (.bool bS) (by omega)).set c (.bool bN)
    rwa [tabN_set c hc bN h2] at h

set_option maxRecDepth 100000 in
set_option maxHeartbeats 2000000 in
theorem walk (a0 : Option Addr) (len0 cap0 : Nat) (xs : List Int) (w : World) (s0 : Bytes.Sl w a0 len0 xs) (m0 : len0 ≤ 9223372036854775807)
    (hx : ∀ z ∈ xs, 0 ≤ z ∧ z ≤ 255) (hnil : a0 = none → len0 = 0 ∧ cap0 = 0) :
    Calls Try.prog 5 #[.slice a0 len0 cap0] w fun e w' => e = .returned (.bool true) ∧ Below w.heap.size w w' := by
  by_cases hs : len0 ≤ 1048576
  case neg =>
    have hd : decide (len0 ≤ 1048576) = false := by simpa using hs
    go_enter Try.func5, Try.ntmps5
    go_wp2_with (go_at_call 11; refine (Bytes.zz11 _ _ _ _ m0).mono ?_; rintro e w' ⟨rfl, rfl⟩)
    go_ret
    exact ⟨rfl, Below.refl _ _⟩
  have hd : decide (len0 ≤ 1048576) = true := by simpa using hs
  by_cases h0 : len0 ≤ 65536
  case neg =>
    go_enter Try.func5, Try.ntmps5
    go_wp2_with (go_at_call 11; refine (Bytes.zz11 _ _ _ _ m0).mono ?_; rintro e w' ⟨rfl, rfl⟩)
    go_ret
    exact ⟨rfl, Below.refl _ _⟩
  obtain ⟨i0, hi, hz0, hz1, hz2⟩ := info_parts Bytes.info5
  have hnn := fun w a n c => run_neq_slice_nil_any (P := Try.prog) w 25 5 a n c 0 0 Try.underlying25
  go_enter Try.func5, Try.ntmps5
  go_upto_if 22 with (go_at_call 11; refine (Bytes.zz11 _ _ _ _ m0).mono ?_; rintro e w' ⟨rfl, rfl⟩)
  go_cut [0, 3] (fun v0 v5 w2 => ∃ A C, v0 = .slice A len0 C ∧ Bytes.Sl w2 A len0 xs ∧ Below w.heap.size w w2 ∧ ((A = none ∧ len0 = 0 ∧ C = 0) ∨ ∃ g, A = some ⟨g, 0, none⟩ ∧ C = len0))
  case first =>
    cases a0 with
    | none =>
      have E0 : Hid (len0 = 0 ∧ cap0 = 0) := hnil rfl
      clear hnil
      go_wp2
      go_meet
      case rel => exact ⟨_, _, rfl, s0, Below.refl _ _, .inl ⟨rfl, E0.out.1, E0.out.2⟩⟩
    | some x =>
      go_wp2_with (at_make; refine wpList_make_full _ rfl _ _ 25 rfl w.heap.size 5 i0 (.int .u8 0) 1 Try.underlying25 hi hz0 hz1 _ _ _ _ len0 rfl rfl (by omega) (by omega) (by rw [hz2]; omega) (by unfold maxLen; omega) (Nat.le_refl _) ?_; intro w1 hown hgrow; obtain ⟨w2, hcp, hb2, s2⟩ := Bytes.copied (c := cap0) s0 hown hgrow; clear hown hgrow)
      go_meet
      case rel => exact ⟨_, _, rfl, s2, hb2, .inr ⟨_, rfl, rfl⟩⟩
  case rest =>
    obtain ⟨A, C, rfl, sA, hB, hAC⟩ := hcut
    clear s0 hnil hnn
    have HAC : Hid ((A = none ∧ len0 = 0 ∧ C = 0) ∨ ∃ g, A = some ⟨g, 0, none⟩ ∧ C = len0) := hAC
    clear hAC
    go_wp2_with fail
    refine (Bytes.isStr _ 0 _ [] _ (by omega) ⟨rfl, fun h => by omega⟩).mono ?_
    rintro e w' ⟨rfl, rfl⟩
    rw [show Bytes.strB [] = false from rfl]
    go_wp2_with fail
    refine (Bytes.isNum _ 0 _ [] _ (by omega) ⟨rfl, fun h => by omega⟩).mono ?_
    rintro e w' ⟨rfl, rfl⟩
    rw [show Bytes.numB [] = false from rfl]
    go_upto_region 12 with fail
    go_cut [43] (fun v w2 => v = .bool false ∧ wc = w2)
    case first =>
      rcases HAC.out with ⟨rfl, h00, rfl⟩ | ⟨g, rfl, rfl⟩
      · clear HAC
        have HH : Hid (len0 = 0) := h00
        clear h00
        go_wp2_with fail
        refine (Bytes.isStr _ 0 _ [] _ (by omega) ⟨rfl, fun h => by omega⟩).mono ?_
        rintro e w' ⟨rfl, rfl⟩
        rw [show Bytes.strB [] = false from rfl]
        go_wp2_with fail
        refine (Bytes.isNum _ 0 _ [] _ (by omega) ⟨rfl, fun h => by omega⟩).mono ?_
        rintro e w' ⟨rfl, rfl⟩
        rw [show Bytes.numB [] = false from rfl]
        go_wp2_with fail
        go_meet
        case rel => exact ⟨rfl, rfl⟩
      · clear HAC
        go_wp2_with fail
        refine (Bytes.isStr _ 0 _ [] _ (by omega) ⟨rfl, fun h => by omega⟩).mono ?_
        rintro e w' ⟨rfl, rfl⟩
        rw [show Bytes.strB [] = false from rfl]
        go_wp2_with fail
        refine (Bytes.isNum _ 0 _ [] _ (by omega) ⟨rfl, fun h => by omega⟩).mono ?_
        rintro e w' ⟨rfl, rfl⟩
        rw [show Bytes.numB [] = false from rfl]
        go_wp2_with fail
        go_meet
        case rel => exact ⟨rfl, rfl⟩
    case rest =>
      obtain ⟨rfl, rfl⟩ := hcut
      go_wp2_with (at_make; refine wpList_make_full _ rfl _ _ 25 rfl wc.heap.size 5 i0 (.int .u8 0) 1 Try.underlying25 hi hz0 hz1 _ _ _ _ (len0 + 1) rfl rfl (by omega) (by omega) (by rw [hz2]; omega) (by unfold maxLen; omega) (Nat.le_refl _) ?_; intro w1 hown hgrow)
      have hb1 : Below wc.heap.size wc w1 := (Below.refl _ _).grown hgrow (Nat.le_refl _) (by simp)
      have hL1 : ∃ L : List Int, L.length = len0 + 1 ∧ Row w1 wc.heap.size 5 (L.map (Value.int .u8)) := row_made hown
      clear hown hgrow hz0 hz1 hz2 hi hs hd m0
      obtain ⟨gB, HgB⟩ : ∃ gB, Hid (wc.heap.size = gB) := ⟨_, rfl⟩
      rw [HgB.out] at hb1 hL1 ⊢
      have HX : Hid (xs.length = len0) := sA.1
      go_loopw [6] (fun i wr => ∃ k : Nat, k ≤ len0 ∧ i = .int .i64 k ∧ (∃ L : List Int, L.length = len0 + 1 ∧ Row wr gB 5 (L.map (Value.int .u8))) ∧ Below gB wc wr) (fun i _ => len0 - (intOf i).toNat)
      case atStart => exact ⟨0, Nat.zero_le _, rfl, hL1, hb1⟩
      case round =>
        obtain ⟨k, hk, rfl, ⟨L, hL, hrow⟩, hb⟩ := hrel
        clear hL1 hb1
        by_cases hlt : k < len0
        · obtain ⟨bb, oo, rfl, hbb, hcell⟩ := sA.2 (by omega)
          have hcr : wr.cell? ⟨bb, oo + k, none⟩ = some (.int .u8 (xs.getD k 0)) := by
            rw [hb.cell (p := ⟨bb, oo + k, none⟩) (by rw [← HgB.out]; exact hbb)]; exact hcell k hlt
          have hck : wr.cell? ⟨gB, k + 1, none⟩ = some (.int .u8 (L.getD (k + 1) 0)) := by
            rw [hrow.cell]; simp [List.getD, show k + 1 < L.length by omega]
          have hfk := hrow.frozen (k + 1)
          have R : Hid (Row (wr.setCell ⟨gB, k + 1, none⟩ (.int .u8 (xs.getD k 0))) gB 5 ((L.set (k + 1) (xs.getD k 0)).map (Value.int .u8)) ∧ Below gB wc (wr.setCell ⟨gB, k + 1, none⟩ (.int .u8 (xs.getD k 0)))) :=
            ⟨by rw [List.map_set]; exact hrow.set _ _, hb.setCell (Nat.le_refl _) _⟩
          clear hrow hb hcell
          obtain ⟨x, HXv⟩ : ∃ x, Hid (x = xs.getD k 0) := ⟨_, rfl⟩
          obtain ⟨y, HYv⟩ : ∃ y, Hid (y = L.getD (k + 1) 0) := ⟨_, rfl⟩
          rw [← HXv.out] at hcr R
          rw [← HYv.out] at hck
          have HL : Hid (L.length = len0 + 1) := hL
          clear hL
          go_wp2
          go_roundw
          case rel => exact ⟨k + 1, by omega, by go_num, ⟨_, by rw [List.length_set]; exact HL.out, R.out.1⟩, R.out.2⟩
          case measure => simp [intOf]; omega
        · have hal := zero27
          clear hk
          have HL : Hid (L.length = len0 + 1) := hL
          clear hL
          go_wp2
          have hS : Row ((wr.alloc (.cells Z27 27)).alloc (.cells Z27 27)) wr.heap.size 27 (tabS 0) := by rw [Z27_S]; exact (Row.new wr 27 _).alloc _
          have hN : Row ((wr.alloc (.cells Z27 27)).alloc (.cells Z27 27)) (wr.heap.size + 1) 27 (tabN 0) := by
            have h := Row.new (wr.alloc (.cells Z27 27)) 27 (tabN 0)
            rw [← Z27_N] at h
            simpa using h
          have hR : Row ((wr.alloc (.cells Z27 27)).alloc (.cells Z27 27)) gB 5 (L.map (Value.int .u8)) := (hrow.alloc _).alloc _
          have hBB : Below gB wc ((wr.alloc (.cells Z27 27)).alloc (.cells Z27 27)) := (hb.alloc (by have := hrow.lt; omega) _).alloc (by have := hrow.lt; simp; omega) _
          have hgS : gB < wr.heap.size := hrow.lt
          clear hal hrow hb
          generalize ((wr.alloc (.cells Z27 27)).alloc (.cells Z27 27)) = w3 at hS hN hR hBB ⊢
          generalize wr.heap.size = gS at hS hN hgS ⊢
          go_loopw [9, 10, 11, 12, 13] (fun v9 v10 v11 _ _ wr => ∃ c : Nat, c ≤ 256 ∧ v9 = .int .i64 (nS c) ∧ v10 = .int .i64 (nN c) ∧ v11 = .int .i64 c ∧ (∃ L : List Int, L.length = len0 + 1 ∧ Row wr gB 5 (L.map (Value.int .u8))) ∧ Row wr gS 27 (tabS c) ∧ Row wr (gS + 1) 27 (tabN c) ∧ Below gB wc wr) (fun _ _ v _ _ _ => 256 - (intOf v).toNat)
          case atStart => exact ⟨0, Nat.zero_le _, rfl, rfl, rfl, ⟨L, HL.out, hR⟩, hS, hN, hBB⟩
          case round =>
            clear hS hN hR hBB HL L
            obtain ⟨c, hc, rfl, rfl, rfl, ⟨L, hL, hR⟩, hS, hN, hBB⟩ := hrel
            have l1 := nS_le c
            have l2 := nN_le c
            by_cases hlc : c < 256
            · obtain ⟨x, L', rfl⟩ : ∃ x L', L = x :: L' := by
                cases L with
                | nil => simp at hL
                | cons x L' => exact ⟨x, L', rfl⟩
              have cB : wr.cell? ⟨gB, 0, none⟩ = some (.int .u8 x) := by rw [hR.cell]; rfl
              have fB := hR.frozen 0
              have R1 : Row (wr.setCell ⟨gB, 0, none⟩ (.int .u8 (c : Int))) gB 5 ((((c : Int) :: L').map (Value.int .u8))) := hR.set 0 _
              have S1 : Row (wr.setCell ⟨gB, 0, none⟩ (.int .u8 (c : Int))) gS 27 (tabS c) := hS.other 0 _ (by omega)
              have N1 : Row (wr.setCell ⟨gB, 0, none⟩ (.int .u8 (c : Int))) (gS + 1) 27 (tabN c) := hN.other 0 _ (by omega)
              have B1 : Below gB wc (wr.setCell ⟨gB, 0, none⟩ (.int .u8 (c : Int))) := hBB.setCell (Nat.le_refl _) _
              have sl1 := R1.sl (N := len0 + 1) (by simpa using hL)
              have HL : Hid ((x :: L').length = len0 + 1) := hL
              clear hR hS hN hBB hL
              rcases (show c = 34 ∨ (c ≠ 34 ∧ (c = 45 ∨ (48 ≤ c ∧ c ≤ 57))) ∨ (c ≠ 34 ∧ ¬ (c = 45 ∨ (48 ≤ c ∧ c ≤ 57))) from by omega) with hk1 | ⟨hk1, hk2⟩ | ⟨hk1, hk2⟩
              · have E1 : Hid (Bytes.strB ((c : Int) :: L') = true) := by show _ = _; simp [Bytes.strB]; omega
                have E2 : Hid (Bytes.numB ((c : Int) :: L') = false) := by show _ = _; simp [Bytes.numB]; omega
                have C1 : Hid (nS (c + 1) = nS c + 1) := by show _ = _; unfold nS; (repeat' split) <;> omega
                have C2 : Hid (nN (c + 1) = nN c) := by show _ = _; unfold nN; (repeat' split) <;> omega
                have D1 : Hid (true = decide (c = 34)) := by show _ = _; simp; omega
                have D2 : Hid (false = (decide (c = 45) || (decide (48 ≤ c) && decide (c ≤ 57)))) := by show _ = _; simp; omega
                have D3 : Hid (_ = _) := hk1
                clear hk1
                go_wp2_with fail
                clear cB fB
                generalize (wr.setCell ⟨gB, 0, none⟩ (.int .u8 (c : Int))) = w4 at R1 S1 N1 B1 sl1 ⊢
                refine (Bytes.isStr _ _ _ ((c : Int) :: L') _ (by omega) sl1).mono ?_
                rintro e w' ⟨rfl, rfl⟩
                rw [E1.out]
                go_wp2_with fail
                refine (Bytes.isNum _ _ _ ((c : Int) :: L') _ (by omega) sl1).mono ?_
                rintro e w' ⟨rfl, rfl⟩
                rw [E2.out]
                have RR := upd (bS := true) (bN := false) hlc D1.out D2.out hgS R1 S1 N1 B1
                obtain ⟨y1, cS⟩ : ∃ y, w4.cell? ⟨gS, c, none⟩ = some (.bool y) := ⟨_, (S1.cell c).trans (tabS_at c c hlc)⟩
                obtain ⟨y2, cN⟩ : ∃ y, w4.cell? ⟨gS + 1, c, none⟩ = some (.bool y) := ⟨_, (N1.cell c).trans (tabN_at c c hlc)⟩
                have fS := S1.frozen c
                have fN := N1.frozen c
                clear R1 S1 N1 B1 sl1
                go_wp2_with fail
                go_roundw
                case rel => exact ⟨c + 1, by omega, by rw [C1.out] <;> go_num, by rw [C2.out] <;> go_num, by go_num, ⟨(c : Int) :: L', by simpa using HL.out, RR.out.1⟩, RR.out.2.1, RR.out.2.2.1, RR.out.2.2.2⟩
                case measure => simp [intOf]; omega
              · have E1 : Hid (Bytes.strB ((c : Int) :: L') = false) := by show _ = _; simp [Bytes.strB]; omega
                have E2 : Hid (Bytes.numB ((c : Int) :: L') = true) := by show _ = _; simp [Bytes.numB]; omega
                have C1 : Hid (nS (c + 1) = nS c) := by show _ = _; unfold nS; (repeat' split) <;> omega
                have C2 : Hid (nN (c + 1) = nN c + 1) := by show _ = _; unfold nN; (repeat' split) <;> omega
                have D1 : Hid (false = decide (c = 34)) := by show _ = _; simp; omega
                have D2 : Hid (true = (decide (c = 45) || (decide (48 ≤ c) && decide (c ≤ 57)))) := by show _ = _; simp; omega
                clear hk1 hk2
                go_wp2_with fail
                clear cB fB
                generalize (wr.setCell ⟨gB, 0, none⟩ (.int .u8 (c : Int))) = w4 at R1 S1 N1 B1 sl1 ⊢
                refine (Bytes.isStr _ _ _ ((c : Int) :: L') _ (by omega) sl1).mono ?_
                rintro e w' ⟨rfl, rfl⟩
                rw [E1.out]
                go_wp2_with fail
                refine (Bytes.isNum _ _ _ ((c : Int) :: L') _ (by omega) sl1).mono ?_
                rintro e w' ⟨rfl, rfl⟩
                rw [E2.out]
                have RR := upd (bS := false) (bN := true) hlc D1.out D2.out hgS R1 S1 N1 B1
                obtain ⟨y1, cS⟩ : ∃ y, w4.cell? ⟨gS, c, none⟩ = some (.bool y) := ⟨_, (S1.cell c).trans (tabS_at c c hlc)⟩
                obtain ⟨y2, cN⟩ : ∃ y, w4.cell? ⟨gS + 1, c, none⟩ = some (.bool y) := ⟨_, (N1.cell c).trans (tabN_at c c hlc)⟩
                have fS := S1.frozen c
                have fN := N1.frozen c
                clear R1 S1 N1 B1 sl1
                go_wp2_with fail
                go_roundw
                case rel => exact ⟨c + 1, by omega, by rw [C1.out] <;> go_num, by rw [C2.out] <;> go_num, by go_num, ⟨(c : Int) :: L', by simpa using HL.out, RR.out.1⟩, RR.out.2.1, RR.out.2.2.1, RR.out.2.2.2⟩
                case measure => simp [intOf]; omega
              · have E1 : Hid (Bytes.strB ((c : Int) :: L') = false) := by show _ = _; simp [Bytes.strB]; omega
                have E2 : Hid (Bytes.numB ((c : Int) :: L') = false) := by show _ = _; simp [Bytes.numB]; omega
                have C1 : Hid (nS (c + 1) = nS c) := by show _ = _; unfold nS; (repeat' split) <;> omega
                have C2 : Hid (nN (c + 1) = nN c) := by show _ = _; unfold nN; (repeat' split) <;> omega
                have D1 : Hid (false = decide (c = 34)) := by show _ = _; simp; omega
                have D2 : Hid (false = (decide (c = 45) || (decide (48 ≤ c) && decide (c ≤ 57)))) := by show _ = _; simp; omega
                clear hk1 hk2
                go_wp2_with fail
                clear cB fB
                generalize (wr.setCell ⟨gB, 0, none⟩ (.int .u8 (c : Int))) = w4 at R1 S1 N1 B1 sl1 ⊢
                refine (Bytes.isStr _ _ _ ((c : Int) :: L') _ (by omega) sl1).mono ?_
                rintro e w' ⟨rfl, rfl⟩
                rw [E1.out]
                go_wp2_with fail
                refine (Bytes.isNum _ _ _ ((c : Int) :: L') _ (by omega) sl1).mono ?_
                rintro e w' ⟨rfl, rfl⟩
                rw [E2.out]
                have RR := upd (bS := false) (bN := false) hlc D1.out D2.out hgS R1 S1 N1 B1
                obtain ⟨y1, cS⟩ : ∃ y, w4.cell? ⟨gS, c, none⟩ = some (.bool y) := ⟨_, (S1.cell c).trans (tabS_at c c hlc)⟩
                obtain ⟨y2, cN⟩ : ∃ y, w4.cell? ⟨gS + 1, c, none⟩ = some (.bool y) := ⟨_, (N1.cell c).trans (tabN_at c c hlc)⟩
                have fS := S1.frozen c
                have fN := N1.frozen c
                clear R1 S1 N1 B1 sl1
                go_wp2_with fail
                go_roundw
                case rel => exact ⟨c + 1, by omega, by rw [C1.out] <;> go_num, by rw [C2.out] <;> go_num, by go_num, ⟨(c : Int) :: L', by simpa using HL.out, RR.out.1⟩, RR.out.2.1, RR.out.2.2.1, RR.out.2.2.2⟩
                case measure => simp [intOf]; omega
            · have hc256 : c = 256 := by omega
              subst hc256
              clear l1 l2 hR hL
              have e1 : nS 256 = 1 := rfl
              have e2 : nN 256 = 11 := rfl
              have cS : wr.cell? ⟨gS, 34, none⟩ = some (.bool true) := (hS.cell 34).trans (tabS_at 256 34 (by omega))
              have cN : wr.cell? ⟨gS + 1, 45, none⟩ = some (.bool true) := (hN.cell 45).trans (tabN_at 256 45 (by omega))
              go_wp2_with fail
              go_loop [14] (fun v => ∃ j : Nat, 48 ≤ j ∧ j ≤ 58 ∧ v = .int .i32 j) (fun v => 58 - (intOf v).toNat)
              case atStart => exact ⟨48, by omega, by omega, rfl⟩
              case round =>
                obtain ⟨j, hj1, hj2, rfl⟩ := hrel
                by_cases hj : j ≤ 57
                · have cJ : wr.cell? ⟨gS + 1, j, none⟩ = some (.bool true) := (hN.cell j).trans ((tabN_at 256 j (by omega)).trans (by simp; omega))
                  go_wp2_with fail
                  go_round
                  case rel => exact ⟨j + 1, by omega, by omega, by go_num⟩
                  case measure => simp [intOf]; omega
                · have hfin : Below w.heap.size w wr := hB.trans (hBB.mono (by rw [← HgB.out]; exact hB.size))
                  by_cases hpos : 0 < len0
                  · obtain ⟨bb, oo, rfl, hbb, hcell⟩ := sA.2 hpos
                    have sW : Bytes.Sl wr (some ⟨bb, oo, none⟩) len0 xs := sA.below (by rw [HgB.out]; exact hBB)
                    obtain ⟨m, xs', rfl, hm⟩ : ∃ (m : Nat) (xs' : List Int), xs = (m : Int) :: xs' ∧ m < 256 := by
                      cases xs with
                      | nil => have := HX.out; simp at this; omega
                      | cons z xs' =>
                        have := hx z (by simp)
                        exact ⟨z.toNat, xs', by rw [Int.toNat_of_nonneg this.1], by omega⟩
                    have cA : wr.cell? ⟨bb, oo, none⟩ = some (.int .u8 (m : Int)) := by
                      rw [hBB.cell (p := ⟨bb, oo, none⟩) (by rw [← HgB.out]; exact hbb)]; simpa using hcell 0 hpos
                    have hp : (0 : Int) < (len0 : Int) := by omega
                    have q1 : (0 : Int) ≤ (m : Int) := by omega
                    have q2 : (m : Int) < 256 := by omega
                    have cSm : wr.cell? ⟨gS, m, none⟩ = some (.bool (Bytes.strB ((m : Int) :: xs'))) := (hS.cell m).trans ((tabS_at 256 m hm).trans (by congr 2; rw [Bool.eq_iff_iff]; simp [Bytes.strB]; omega))
                    have cNm : wr.cell? ⟨gS + 1, m, none⟩ = some (.bool (Bytes.numB ((m : Int) :: xs'))) := (hN.cell m).trans ((tabN_at 256 m hm).trans (by congr 2; rw [Bool.eq_iff_iff]; simp [Bytes.numB]; omega))
                    have kS : ∀ n c, Calls Try.prog 12 #[.slice (some ⟨bb, oo, none⟩) len0 c] (wr.drewN n) fun e w' => e = .returned (.bool (Bytes.strB ((m : Int) :: xs'))) ∧ w' = wr.drewN n := fun n c => (Bytes.isStr _ _ _ _ _ (by omega) (sl_drewN sW n)).mono fun e w' h => ⟨h.1, h.2.symm⟩
                    have kN : ∀ n c, Calls Try.prog 13 #[.slice (some ⟨bb, oo, none⟩) len0 c] (wr.drewN n) fun e w' => e = .returned (.bool (Bytes.numB ((m : Int) :: xs'))) ∧ w' = wr.drewN n := fun n c => (Bytes.isNum _ _ _ _ _ (by omega) (sl_drewN sW n)).mono fun e w' h => ⟨h.1, h.2.symm⟩
                    have KS : Hid _ := kS
                    have KN : Hid _ := kN
                    clear kS kN hx sA hcell hS hN hBB sW cS cN HX HAC
                    generalize Bytes.strB ((m : Int) :: xs') = p at KS cSm
                    generalize Bytes.numB ((m : Int) :: xs') = q at KN cNm
                    go_wp2_with fail
                    go_quiet ((first | (go_at_call 12; exact Calls.quiet_of_same (KS.out _ _)) | (go_at_call 13; exact Calls.quiet_of_same (KN.out _ _))))
                    go_wp2
                    go_ret
                    exact ⟨rfl, hfin.trans ⟨rfl, rfl, rfl, Nat.le_refl _, fun _ _ => rfl⟩⟩
                  · go_wp2_with fail
                    go_ret
                    exact ⟨rfl, hfin⟩

end Go.Proofs.Qxb6615658a.Census
