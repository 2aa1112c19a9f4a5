/-
  Refusal by two contracts; the length guard; the plain law on joined texts.
-/
import Derived.Test.Qxb6615621aDoorAs
import Derived.WalkSpells
import Derived.WalkLawsBesides
import Derived.Below
import Derived.RegionTactic
import Derived.BigRegion
import Derived.Lib.Strings
namespace Go.Proofs.Qxb6615621aDoor.Parts
open Go.RowKit
set_option linter.unusedVariables false
set_option maxRecDepth 100000

/-- What errors.As reads: the handle of the type 'error'. -/
abbrev Handle (w : World) : Prop := w.cell? ⟨0, 0, none⟩ = some (.iface 46 (.agg #[.pointer (some ⟨1, 27, none⟩)]))

/-- A *RefusedError at block g: its path; no cause. -/
def Ref (w : World) (g : Nat) (p : ByteArray) : Prop := w.cell? ⟨g, 0, none⟩ = some (.string p) ∧ w.cell? ⟨g, 1, none⟩ = some .nilIface

theorem Ref.below {w w' : World} {g : Nat} {p : ByteArray} (h : Ref w g p) (hb : Below w.heap.size w w') : Ref w' g p := ⟨cell_later hb h.1, cell_later hb h.2⟩

set_option maxHeartbeats 400000 in
theorem refusal_nil (part : ByteArray) (w : World) :
    Calls Tryd.prog 5 #[.string part, .nilIface] w fun e w' => ∃ g, e = .returned (.pointer (some ⟨g, 0, none⟩)) ∧ Ref w' g part ∧ Below w.heap.size w w' := by
  go_enter Tryd.func5, Tryd.ntmps5
  go_wp2_with (go_at_call 6; refine (As.as_nil _ _).mono ?_; rintro e w' ⟨rfl, rfl⟩)
  go_ret
  exact ⟨w.heap.size + 1, rfl, ⟨by simp, by simp⟩, ((Below.refl _ w).alloc (Nat.le_refl _) _).alloc (by simp) _⟩

set_option maxHeartbeats 1000000 in
theorem refusal_hit (part p : ByteArray) (g : Nat) (w : World) (hg : Handle w) (hr : Ref w g p) (h1 : part.size ≤ 1048576) (h2 : p.size ≤ 1048576) :
    Calls Tryd.prog 5 #[.string part, .iface 24 (.pointer (some ⟨g, 0, none⟩))] w fun e w' => ∃ g', e = .returned (.pointer (some ⟨g', 0, none⟩)) ∧ Ref w' g' (part ++ ⟨#[46]⟩ ++ p) ∧ Below w.heap.size w w' := by
  obtain ⟨r0, r1⟩ := hr
  have l0 := World.block_lt_of_cell? w _ hg
  have lg := World.block_lt_of_cell? w _ r0
  have hgA : (w.alloc (.cells #[.pointer none] 24)).cell? ⟨0, 0, none⟩ = some (.iface 46 (.agg #[.pointer (some ⟨1, 27, none⟩)])) := cell_later ((Below.refl _ w).alloc (Nat.le_refl _) _) hg
  have htA : (w.alloc (.cells #[.pointer none] 24)).cell? ⟨w.heap.size, 0, none⟩ = some (.pointer none) := by simp
  have hfA : (w.alloc (.cells #[.pointer none] 24)).frozen? ⟨w.heap.size, 0, none⟩ = false := by simp
  go_enter Tryd.func5, Tryd.ntmps5
  go_wp2_with (go_at_call 6; refine (As.as_hit _ _ (.pointer none) _ hgA htA hfA).mono ?_; rintro e w' ⟨rfl, rfl⟩)
  obtain ⟨W, hWe⟩ : ∃ W, W = (((((w.alloc (.cells #[.pointer (some ⟨g, 0, none⟩)] 24)).alloc (.cells #[.pointer (some ⟨w.heap.size, 0, none⟩)] 31)).alloc (.cells #[.pointer (some ⟨1, 31, none⟩), .pointer (some ⟨w.heap.size + 1, 0, none⟩), .int .u64 150] 35)).alloc
    (.cells #[.pointer (some ⟨1, 31, none⟩), .pointer (some ⟨w.heap.size + 1, 0, none⟩), .int .u64 150] 35)).alloc (.cells #[.pointer (some ⟨g, 0, none⟩)] 24)) := ⟨_, rfl⟩
  rw [← hWe]
  have hb : Below w.heap.size w W := by
    rw [hWe]
    exact (((((Below.refl _ w).alloc (Nat.le_refl _) _).alloc (by simp) _).alloc (by simp; omega) _).alloc (by simp; omega) _).alloc (by simp; omega) _
  have q1 : W.cell? ⟨w.heap.size, 0, none⟩ = some (.pointer (some ⟨g, 0, none⟩)) := by
    rw [hWe, World.cell?_alloc_lt _ _ _ (by simp; omega), World.cell?_alloc_lt _ _ _ (by simp; omega), World.cell?_alloc_lt _ _ _ (by simp; omega), World.cell?_alloc_lt _ _ _ (by simp)]
    simp
  have q2 : W.cell? ⟨g, 0, none⟩ = some (.string p) := cell_later hb r0
  have q3 : W.cell? ⟨g, 1, none⟩ = some .nilIface := cell_later hb r1
  clear hWe hgA htA hfA hg r0 r1
  go_region
  go_wp2
  go_ret
  exact ⟨W.heap.size, rfl, ⟨by show (W.alloc _).cell? _ = _; simp, by show (W.alloc _).cell? _ = _; simp⟩, (hb.alloc hb.size _).drew⟩

/-- The slice value (a, n) has the n strings ss in the world w. -/
def Strs (w : World) (a : Option Addr) (n : Nat) (ss : List ByteArray) : Prop :=
  ss.length = n ∧ (0 < n → ∃ b o, a = some ⟨b, o, none⟩ ∧ b < w.heap.size ∧ ∀ i, i < n → w.cell? ⟨b, o + i, none⟩ = some (.string (ss.getD i ByteArray.empty)))

theorem Strs.below {w w' : World} {a : Option Addr} {n : Nat} {ss : List ByteArray} (h : Strs w a n ss) (hb : Below w.heap.size w w') : Strs w' a n ss := by
  refine ⟨h.1, fun hn => ?_⟩
  obtain ⟨b, o, ha, hlt, hc⟩ := h.2 hn
  exact ⟨b, o, ha, Nat.lt_of_lt_of_le hlt hb.size, fun i hi => cell_later hb (hc i hi)⟩

/-- What the length guard answers. -/
def Guard (inner : ByteArray) (n : Nat) (ss : List ByteArray) (e : Ending) : Prop :=
  ∃ b : Bool, e = .returned (.bool b) ∧ (b = true → inner.size ≤ 1048576 ∧ n ≤ 1048576 ∧ ∀ i, i < n → (ss.getD i ByteArray.empty).size ≤ 1048576)

set_option maxHeartbeats 1000000 in
theorem zz4 (inner : ByteArray) (a : Option Addr) (n c : Nat) (ss : List ByteArray) (w : World) (hi : inner.size ≤ 9223372036854775807) (hn : n ≤ 9223372036854775807) (hs : Strs w a n ss) (hz : ∀ i, (ss.getD i ByteArray.empty).size ≤ 9223372036854775807) :
    Calls Tryd.prog 4 #[.string inner, .slice a n c] w fun e w' => Guard inner n ss e ∧ w = w' := by
  by_cases g1 : inner.size ≤ 1048576
  case neg =>
    go_enter Tryd.func4, Tryd.ntmps4
    go_wp2
    go_ret
    exact ⟨⟨false, rfl, fun h => by cases h⟩, rfl⟩
  by_cases g2 : n ≤ 1048576
  case neg =>
    go_enter Tryd.func4, Tryd.ntmps4
    go_wp2
    go_ret
    exact ⟨⟨false, rfl, fun h => by cases h⟩, rfl⟩
  by_cases g3 : inner.size + n ≤ 1048576
  case neg =>
    go_enter Tryd.func4, Tryd.ntmps4
    go_wp2
    go_ret
    exact ⟨⟨false, rfl, fun h => by cases h⟩, rfl⟩
  clear hi hn
  go_enter Tryd.func4, Tryd.ntmps4
  go_wp2
  go_loop [5, 6] (fun z i => ∃ k q : Nat, k ≤ n ∧ i = .int .i64 k ∧ z = .int .i64 q ∧ q ≤ 1048576 ∧ ∀ j, j < k → (ss.getD j ByteArray.empty).size ≤ 1048576) (fun _ i => n - (intOf i).toNat)
  case atStart => exact ⟨0, inner.size + n, Nat.zero_le _, rfl, by go_num, g3, fun j h => by omega⟩
  case round =>
    obtain ⟨k, q, hk, rfl, rfl, hq, hall⟩ := hrel
    have HA : Hid (∀ j, j < k → (ss.getD j ByteArray.empty).size ≤ 1048576) := hall
    clear hall
    by_cases hlt : k < n
    · obtain ⟨bb, oo, rfl, hbb, hcell⟩ := hs.2 (by omega)
      have hcr := hcell k hlt
      have hzk := hz k
      obtain ⟨s, HS⟩ : ∃ s, Hid (s = ss.getD k ByteArray.empty) := ⟨_, rfl⟩
      rw [← HS.out] at hcr hzk
      clear hcell hs hz
      by_cases hsz : s.size ≤ 1048576
      · by_cases hsum : q + s.size ≤ 1048576
        · go_wp2
          go_round
          case rel => exact ⟨k + 1, q + s.size, by omega, by go_num, by go_num, hsum, fun j hj => by
            by_cases e : j = k
            · subst e; rw [← HS.out]; exact hsz
            · exact HA.out j (by omega)⟩
          case measure => simp [intOf]; omega
        · go_wp2
          go_ret
          exact ⟨⟨false, rfl, fun h => by cases h⟩, rfl⟩
      · go_wp2
        go_ret
        exact ⟨⟨false, rfl, fun h => by cases h⟩, rfl⟩
    · have hkn : k = n := by omega
      clear hz hs
      go_wp2
      go_ret
      exact ⟨⟨true, rfl, fun _ => ⟨g1, g2, fun i hi => HA.out i (by omega)⟩⟩, rfl⟩

end Go.Proofs.Qxb6615621aDoor.Parts
