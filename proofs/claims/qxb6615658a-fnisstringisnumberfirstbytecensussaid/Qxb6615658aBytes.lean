/-
  Contracts of the small byte functions: isString, isNumber, joinBytes, the zzBytes guards.
-/
import Derived.Test.Qxb6615658aRows
import Derived.WalkKit
import Derived.WalkSpells
import Derived.Laws.CopyOwn
import Derived.Below
namespace Go.Proofs.Qxb6615658a.Bytes
open Go.RowKit
set_option linter.unusedVariables false

/-- The slice value (a, n) has the n elements zs (numbers of a byte each) in the world w. -/
def Sl (w : World) (a : Option Addr) (n : Nat) (zs : List Int) : Prop :=
  zs.length = n ∧ (0 < n → ∃ b o, a = some ⟨b, o, none⟩ ∧ b < w.heap.size ∧ ∀ i, i < n → w.cell? ⟨b, o + i, none⟩ = some (.int .u8 (zs.getD i 0)))

theorem Sl.below {w w' : World} {a : Option Addr} {n : Nat} {zs : List Int} (h : Sl w a n zs) (hb : Below w.heap.size w w') : Sl w' a n zs := by
  refine ⟨h.1, fun hn => ?_⟩
  obtain ⟨b, o, ha, hlt, hc⟩ := h.2 hn
  refine ⟨b, o, ha, Nat.lt_of_lt_of_le hlt hb.size, fun i hi => ?_⟩
  rw [hb.cell (p := ⟨b, o + i, none⟩) hlt]
  exact hc i hi

def strB : List Int → Bool
  | [] => false
  | z :: _ => z == 34
def numB : List Int → Bool
  | [] => false
  | z :: _ => z == 45 || (decide (48 ≤ z) && decide (z ≤ 57))

set_option maxHeartbeats 400000 in
theorem isStr18 (a : Option Addr) (n c : Nat) (zs : List Int) (w : World) (hn : n ≤ 1048577) (h : Sl w a n zs) :
    Calls Try.prog 18 #[.slice a n c] w fun e w' => e = .returned (.bool (strB zs)) ∧ w = w' := by
  obtain ⟨hl, hc⟩ := h
  cases zs with
  | nil =>
    have h0 : n = 0 := by simpa using hl.symm
    subst h0
    clear hc hl
    go_enter Try.func18, Try.ntmps18
    go_wp2
    go_ret
    exact ⟨rfl, rfl⟩
  | cons z zs =>
    have hpos : 0 < n := by simp at hl; omega
    obtain ⟨b, o, rfl, hlt, hcell⟩ := hc hpos
    have h0 : w.cell? ⟨b, o, none⟩ = some (.int .u8 z) := by simpa using hcell 0 hpos
    have hp : (0 : Int) < (n : Int) := by omega
    clear hl hc hcell hlt
    go_enter Try.func18, Try.ntmps18
    go_wp2
    go_ret
    exact ⟨rfl, rfl⟩

set_option maxHeartbeats 400000 in
theorem isNum19 (a : Option Addr) (n c : Nat) (zs : List Int) (w : World) (hn : n ≤ 1048577) (h : Sl w a n zs) :
    Calls Try.prog 19 #[.slice a n c] w fun e w' => e = .returned (.bool (numB zs)) ∧ w = w' := by
  obtain ⟨hl, hc⟩ := h
  cases zs with
  | nil =>
    have h0 : n = 0 := by simpa using hl.symm
    subst h0
    clear hc hl
    go_enter Try.func19, Try.ntmps19
    go_wp2
    go_ret
    exact ⟨rfl, rfl⟩
  | cons z zs =>
    have hpos : 0 < n := by simp at hl; omega
    obtain ⟨b, o, rfl, hlt, hcell⟩ := hc hpos
    have h0 : w.cell? ⟨b, o, none⟩ = some (.int .u8 z) := by simpa using hcell 0 hpos
    have hp : (0 : Int) < (n : Int) := by omega
    clear hl hc hcell hlt
    go_enter Try.func19, Try.ntmps19
    go_wp2
    all_goals go_ret
    all_goals exact ⟨by simp [numB, *]; try omega, rfl⟩

theorem isStr (a : Option Addr) (n c : Nat) (zs : List Int) (w : World) (hn : n ≤ 1048577) (h : Sl w a n zs) :
    Calls Try.prog 12 #[.slice a n c] w fun e w' => e = .returned (.bool (strB zs)) ∧ w = w' := by
  go_enter Try.func12, Try.ntmps12
  go_wp2_with (go_at_call 18; refine (isStr18 _ _ _ zs _ hn h).mono ?_; rintro e w' ⟨rfl, rfl⟩)
  go_ret
  exact ⟨rfl, rfl⟩

theorem isNum (a : Option Addr) (n c : Nat) (zs : List Int) (w : World) (hn : n ≤ 1048577) (h : Sl w a n zs) :
    Calls Try.prog 13 #[.slice a n c] w fun e w' => e = .returned (.bool (numB zs)) ∧ w = w' := by
  go_enter Try.func13, Try.ntmps13
  go_wp2_with (go_at_call 19; refine (isNum19 _ _ _ zs _ hn h).mono ?_; rintro e w' ⟨rfl, rfl⟩)
  go_ret
  exact ⟨rfl, rfl⟩

/-- The guards on total length: under them, true; else false. -/
theorem zz16 (a b : Option Addr) (n c m d : Nat) (w : World) (hn : n ≤ 9223372036854775807) (hm : m ≤ 9223372036854775807) :
    Calls Try.prog 16 #[.slice a n c, .slice b m d] w fun e w' => e = .returned (.bool (decide (n + m ≤ 1048576))) ∧ w = w' := by
  by_cases h1 : n ≤ 1048576
  · by_cases h2 : m ≤ 1048576
    · by_cases h3 : n + m ≤ 1048576
      · go_enter Try.func16, Try.ntmps16
        go_wp2
        go_ret
        exact ⟨by simp [h3], rfl⟩
      · go_enter Try.func16, Try.ntmps16
        go_wp2
        go_ret
        exact ⟨by simp [h3], rfl⟩
    · go_enter Try.func16, Try.ntmps16
      go_wp2
      go_ret
      exact ⟨by simp; omega, rfl⟩
  · go_enter Try.func16, Try.ntmps16
    go_wp2
    go_ret
    exact ⟨by simp; omega, rfl⟩

theorem zz14 (a b : Option Addr) (n c m d : Nat) (w : World) (hn : n ≤ 9223372036854775807) (hm : m ≤ 9223372036854775807) :
    Calls Try.prog 14 #[.slice a n c, .slice b m d] w fun e w' => e = .returned (.bool (decide (n + m ≤ 1048576))) ∧ w = w' := by
  by_cases h1 : n ≤ 1048576
  · by_cases h2 : m ≤ 1048576
    · by_cases h3 : n + m ≤ 1048576
      · go_enter Try.func14, Try.ntmps14
        go_wp2
        go_ret
        exact ⟨by simp [h3], rfl⟩
      · go_enter Try.func14, Try.ntmps14
        go_wp2
        go_ret
        exact ⟨by simp [h3], rfl⟩
    · go_enter Try.func14, Try.ntmps14
      go_wp2
      go_ret
      exact ⟨by simp; omega, rfl⟩
  · go_enter Try.func14, Try.ntmps14
    go_wp2
    go_ret
    exact ⟨by simp; omega, rfl⟩

theorem zz11 (a : Option Addr) (n c : Nat) (w : World) (hn : n ≤ 9223372036854775807) :
    Calls Try.prog 11 #[.slice a n c] w fun e w' => e = .returned (.bool (decide (n ≤ 1048576))) ∧ w = w' := by
  by_cases h1 : n ≤ 1048576
  · go_enter Try.func11, Try.ntmps11
    go_wp2
    go_ret
    exact ⟨by simp [h1], rfl⟩
  · go_enter Try.func11, Try.ntmps11
    go_wp2
    go_ret
    exact ⟨by simp [h1], rfl⟩

theorem info5 : (Try.prog.info? 5).map (fun i => (i.zero, i.size, i.bytes)) = some (some (.int .u8 0), 1, 1) := by kernel_rfl

/-- Out of an owned row to the elements of a slice. -/
theorem Sl_of_row {w : World} {base g n cap : Nat} {zs : List Int} (h : w.ownsRow base 5 1 (.slice (some ⟨g, 0, none⟩) n cap) n (zs.map (Value.int .u8))) : Sl w (some ⟨g, 0, none⟩) n zs := by
  have hl : zs.length = n := by simpa using h.1
  refine ⟨hl, fun hn => ⟨g, 0, rfl, (h.lt g rfl).2, fun i hi => ?_⟩⟩
  rw [Nat.zero_add, h.cellAt i (by omega)]
  simp [List.getD, show i < zs.length by omega]

theorem set_step (xs : List Int) (m k : Nat) (y : Int) (hk : k < m) (hx : xs.length = k) :
    ((xs ++ List.replicate (m - k) 0).set k y) = (xs ++ [y]) ++ List.replicate (m - (k + 1)) 0 := by
  subst hx
  have e : m - xs.length = (m - (xs.length + 1)) + 1 := by omega
  rw [e, List.replicate_succ]
  simp

theorem row_step {w wr : World} {base g N k : Nat} {P : List Int} (hP : P.length = k) (hk : k < N) (y : Int)
    (h : wr.ownsRow base 5 1 (.slice (some ⟨g, 0, none⟩) N N) N ((P ++ List.replicate (N - k) 0).map (Value.int .u8))) (hb : Below base w wr) (hg : base ≤ g) :
    (wr.setCell ⟨g, k, none⟩ (.int .u8 y)).ownsRow base 5 1 (.slice (some ⟨g, 0, none⟩) N N) N (((P ++ [y]) ++ List.replicate (N - (k + 1)) 0).map (Value.int .u8)) ∧
      Below base w (wr.setCell ⟨g, k, none⟩ (.int .u8 y)) := by
  refine ⟨?_, hb.setCell (by exact hg) _⟩
  have := (h.stored k (.int .u8 y)).1
  rwa [← List.map_set, set_step P N k y hk hP] at this

theorem row_cell {wr : World} {base g N k : Nat} {P : List Int} (hP : P.length = k) (hk : k < N)
    (h : wr.ownsRow base 5 1 (.slice (some ⟨g, 0, none⟩) N N) N ((P ++ List.replicate (N - k) 0).map (Value.int .u8))) : wr.cell? ⟨g, k, none⟩ = some (.int .u8 0) := by
  rw [h.cellAt k (by omega)]
  simp [hP, show 0 < N - k by omega]

theorem take_one (xs : List Int) (k : Nat) (h : k < xs.length) : xs.take (k + 1) = xs.take k ++ [xs.getD k 0] := by
  rw [List.take_succ_eq_append_getElem h]; simp [List.getD, h]

set_option maxHeartbeats 1000000 in
theorem join_any (a b : Option Addr) (n c m d : Nat) (xs ys : List Int) (w : World) (hn : n ≤ 1048576) (hm : m ≤ 1048576) (hx : Sl w a n xs) (hy : Sl w b m ys) :
    Calls Try.prog 15 #[.slice a n c, .slice b m d] w fun e w' => ∃ g, e = .returned (.slice (some ⟨g, 0, none⟩) (n + m) (n + m)) ∧ Below w.heap.size w w' ∧ Sl w' (some ⟨g, 0, none⟩) (n + m) (xs ++ ys) := by
  obtain ⟨i0, hi, hz0, hz1, hz2⟩ := info_parts info5
  go_enter Try.func15, Try.ntmps15
  go_wp2_with (at_make; refine wpList_make_full _ rfl _ _ 25 rfl w.heap.size 5 i0 (.int .u8 0) 1 Try.underlying25 hi hz0 hz1 _ _ _ _ (n + m) rfl rfl (by omega) (by omega) (by rw [hz2]; omega) (by unfold maxLen; omega) (Nat.le_refl _) ?_; intro w1 hown hgrow)
  have hb1 : Below w.heap.size w w1 := (Below.refl _ _).grown hgrow (Nat.le_refl _) (by simp)
  have hown1 : w1.ownsRow w.heap.size 5 1 (.slice (some ⟨w.heap.size, 0, none⟩) (n + m) (n + m)) (n + m) ((([] : List Int) ++ List.replicate (n + m - 0) 0).map (Value.int .u8)) := by
    simp only [Nat.mul_one, Value.cells, toList_madeCells_one] at hown
    simpa using hown
  clear hown hgrow hz0 hz1 hz2 hi
  generalize hg : w.heap.size = g at *
  have Hg : Hid (w.heap.size = g) := hg
  clear hg
  have hxl := hx.1
  have hyl := hy.1
  have HX : Hid (xs.length = n) := hxl
  have HY : Hid (ys.length = m) := hyl
  clear hxl hyl
  go_loopw [6] (fun i wr => ∃ k : Nat, k ≤ n ∧ i = .int .i64 k ∧ wr.ownsRow g 5 1 (.slice (some ⟨g, 0, none⟩) (n + m) (n + m)) (n + m) ((xs.take k ++ List.replicate (n + m - k) 0).map (Value.int .u8)) ∧ Below g w wr) (fun i _ => n - (intOf i).toNat)
  case atStart => exact ⟨0, Nat.zero_le _, rfl, by simpa using hown1, hb1⟩
  case round =>
    obtain ⟨k, hk, rfl, hown, hb⟩ := hrel
    clear hown1 hb1
    by_cases hlt : k < n
    · have hkl : (xs.take k).length = k := by simp; have := HX.out; omega
      obtain ⟨bb, oo, rfl, hbb, hcell⟩ := hx.2 (by omega)
      have hcr : wr.cell? ⟨bb, oo + k, none⟩ = some (.int .u8 (xs.getD k 0)) := by
        rw [hb.cell (p := ⟨bb, oo + k, none⟩) (by rw [← Hg.out]; exact hbb)]; exact hcell k hlt
      have hck := row_cell hkl (by omega) hown
      have hfk := hown.frozenAt k
      have R := row_step hkl (by omega) (xs.getD k 0) hown hb (Nat.le_refl _)
      have RR : Hid ((wr.setCell ⟨g, k, none⟩ (.int .u8 (xs.getD k 0))).ownsRow g 5 1 (.slice (some ⟨g, 0, none⟩) (n + m) (n + m)) (n + m) ((xs.take (k + 1) ++ List.replicate (n + m - (k + 1)) 0).map (Value.int .u8)) ∧ Below g w (wr.setCell ⟨g, k, none⟩ (.int .u8 (xs.getD k 0)))) := by
        rw [take_one xs k (by have := HX.out; omega)]; exact R
      clear R hown hb hkl hcell
      obtain ⟨x, HXv⟩ : ∃ x, Hid (x = xs.getD k 0) := ⟨_, rfl⟩
      rw [← HXv.out] at hcr RR
      go_wp2
      go_roundw
      case rel => exact ⟨k + 1, by omega, by go_num, RR.out.1, RR.out.2⟩
      case measure => simp [intOf]; omega
    · have hkn : k = n := by omega
      subst hkn
      have hown2 : wr.ownsRow g 5 1 (.slice (some ⟨g, 0, none⟩) (k + m) (k + m)) (k + m) ((xs ++ List.replicate (k + m - (k + 0)) 0).map (Value.int .u8)) := by
        have e : xs.take k = xs := List.take_of_length_le (by have := HX.out; omega)
        rw [e] at hown; exact hown
      clear hown
      go_wp2
      go_loopw [7] (fun i wr => ∃ j : Nat, j ≤ m ∧ i = .int .i64 j ∧ wr.ownsRow g 5 1 (.slice (some ⟨g, 0, none⟩) (k + m) (k + m)) (k + m) (((xs ++ ys.take j) ++ List.replicate (k + m - (k + j)) 0).map (Value.int .u8)) ∧ Below g w wr) (fun i _ => m - (intOf i).toNat)
      case atStart => exact ⟨0, Nat.zero_le _, rfl, by simpa using hown2, hb⟩
      case round =>
        obtain ⟨j, hj, rfl, hown, hbj⟩ := hrel
        clear hown2 hb
        by_cases hjt : j < m
        · have hkl : (xs ++ ys.take j).length = k + j := by have := HX.out; have := HY.out; simp; omega
          obtain ⟨bb, oo, rfl, hbb, hcell⟩ := hy.2 (by omega)
          have hcr : wr.cell? ⟨bb, oo + j, none⟩ = some (.int .u8 (ys.getD j 0)) := by
            rw [hbj.cell (p := ⟨bb, oo + j, none⟩) (by rw [← Hg.out]; exact hbb)]; exact hcell j hjt
          have hck := row_cell hkl (by omega) hown
          have hfk := hown.frozenAt (k + j)
          have R := row_step hkl (by omega) (ys.getD j 0) hown hbj (Nat.le_refl _)
          have RR : Hid ((wr.setCell ⟨g, k + j, none⟩ (.int .u8 (ys.getD j 0))).ownsRow g 5 1 (.slice (some ⟨g, 0, none⟩) (k + m) (k + m)) (k + m) (((xs ++ ys.take (j + 1)) ++ List.replicate (k + m - (k + (j + 1))) 0).map (Value.int .u8)) ∧ Below g w (wr.setCell ⟨g, k + j, none⟩ (.int .u8 (ys.getD j 0)))) := by
            rw [take_one ys j (by have := HY.out; omega)]; rw [← List.append_assoc]; exact R
          clear R hown hbj hkl hcell
          obtain ⟨y, HYv⟩ : ∃ y, Hid (y = ys.getD j 0) := ⟨_, rfl⟩
          rw [← HYv.out] at hcr RR
          go_wp2
          go_roundw
          case rel => exact ⟨j + 1, by omega, by go_num, RR.out.1, RR.out.2⟩
          case measure => simp [intOf]; omega
        · have hjm : j = m := by omega
          subst hjm
          have hs : Sl wr (some ⟨g, 0, none⟩) (k + j) (xs ++ ys) := by
            have e : ys.take j = ys := List.take_of_length_le (by have := HY.out; omega)
            rw [e, show k + j - (k + j) = 0 from by omega] at hown
            exact Sl_of_row (by simpa using hown)
          clear hown
          go_wp2
          go_ret
          exact ⟨g, rfl, by rw [Hg.out]; exact hbj, hs⟩

theorem size5 : (Try.prog.info? 5).map (·.size) = some 1 := by kernel_rfl

/-- 'zzc := make([]byte, len(a)); copy(zzc, a)': behind the make (world w1) the copy runs, and what was made holds a's elements. -/
theorem copied {w w1 : World} {n c : Nat} {a : Option Addr} {xs : List Int} (s : Sl w a n xs)
    (hown : w1.ownsRow w.heap.size 5 1 (.slice (some ⟨w.heap.size, 0, none⟩) n n) n (madeCells (Value.int .u8 0).cells (n * 1)).toList) (hgrow : w.grownBy w1 none) :
    ∃ w2, (Builtin.copy_ #[25, 25] 3 #[.slice (some ⟨w.heap.size, 0, none⟩) n n, .slice a n c]).run Try.prog w1 = .ok (.int .i64 n) w2 ∧ Below w.heap.size w w2 ∧ Sl w2 (some ⟨w.heap.size, 0, none⟩) n xs := by
  have hb1 : Below w.heap.size w w1 := (Below.refl _ _).grown hgrow (Nat.le_refl _) (by simp)
  have hs1 := s.below hb1
  by_cases h0 : n = 0
  · subst h0
    refine ⟨w1, run_copy_none (P := Try.prog) w1 25 25 3 5 _ a 0 0 0 c Try.underlying25 size5 (by simp), hb1, ⟨s.1, fun h => by omega⟩⟩
  · obtain ⟨b, o, rfl, hlt, hcell⟩ := hs1.2 (by omega)
    rcases hown.2 with ⟨h', _⟩ | ⟨g', cap', cur, h', _, hg, _, _, hcs, htake⟩
    · simp at h'
    · simp only [Value.slice.injEq, Option.some.injEq, Addr.mk.injEq, and_true, true_and] at h'
      obtain ⟨rfl, rfl⟩ := h'
      have hl : (xs.map (Value.int .u8)).length = n := by simpa using s.1
      have hr := run_copy_row (P := Try.prog) w1 25 25 3 5 w.heap.size 0 n n ⟨b, o, none⟩ n c cur 5 (xs.map (Value.int .u8)) Try.underlying25 size5 hg (by rw [hl]; simp)
        (by
          intro j v hj
          have hjn : j < n := by rw [← hl]; exact (List.getElem?_eq_some_iff.1 hj).1
          have hjx : j < xs.length := by rw [s.1]; exact hjn
          rw [Addr.add_lit, hcell j hjn, ← hj]
          simp [List.getD, hjx]) (by rw [hl]; omega) (ints_oneCell _ _)
      rw [hl] at hr
      refine ⟨_, hr, below_setRow hb1 (Nat.le_refl _) _, ⟨s.1, fun _ => ⟨_, 0, rfl, ?_, fun i hi => ?_⟩⟩⟩
      · have := hown.lt _ rfl
        simpa [World.setRow] using this.2
      · have hix : i < xs.length := by rw [s.1]; exact hi
        rw [cell_of_row _ _ _ _ 5 (0, 0) (setRow_heap w1 _ _ _ 5 _ hg)]
        have e : (xs.map (Value.int .u8) ++ cur.toList.drop n)[i]? = some (.int .u8 (xs.getD i 0)) := by
          rw [List.getElem?_append_left (by simpa using hix)]
          simp [List.getD, hix]
        simpa using e

/-- A slice literal of one byte. -/
theorem Sl_one (w : World) (z : Int) : Sl (w.alloc (.cells #[.int .u8 z] 5)) (some ⟨w.heap.size, 0, none⟩) 1 [z] := by
  refine ⟨rfl, fun _ => ⟨_, 0, rfl, by simp, fun i hi => ?_⟩⟩
  obtain rfl : i = 0 := by omega
  simp

theorem numB_join_pos {xs ys : List Int} (h : 0 < xs.length) : numB (xs ++ ys) = numB xs := by
  cases xs with
  | nil => simp at h
  | cons x xs => rfl
theorem strB_join_pos {xs ys : List Int} (h : 0 < xs.length) : strB (xs ++ ys) = strB xs := by
  cases xs with
  | nil => simp at h
  | cons x xs => rfl
theorem join_nil {xs ys : List Int} (h : xs.length = 0) : xs ++ ys = ys := by
  rw [List.eq_nil_of_length_eq_zero h]; rfl
theorem not_both (zs : List Int) (h : strB zs = true) : numB zs = false := by
  cases zs with
  | nil => rfl
  | cons z zs => simp [strB] at h; subst h; rfl

end Go.Proofs.Qxb6615658a.Bytes
