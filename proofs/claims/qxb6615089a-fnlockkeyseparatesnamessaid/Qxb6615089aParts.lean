/-
  Contracts of the functions on the road of FnLockKeySeparatesNames, and the plain law on lists of bytes.
-/
import Derived.Test.Qxb6615089aRows
import Derived.WalkKit
import Derived.WalkSpells
import Derived.WalkLawsBesides
import Derived.RowKit3
import Derived.Below
import Derived.Lib.Strings
namespace Go.Proofs.Qxb6615089a.Parts
open Go.RowKit
set_option linter.unusedVariables false
set_option maxRecDepth 100000

/-- Does the text hold a colon? -/
def col (s : ByteArray) : Bool := s.data.toList.any (fun c => c == 58)
/-- The key under which the lock lies. -/
def keyB (ns nm : ByteArray) : ByteArray := if ns.toList.isEmpty then nm else ns ++ ⟨#[58]⟩ ++ nm

theorem zz4 (a b c d : ByteArray) (w : World) (ha : a.size ≤ 9223372036854775807) (hb : b.size ≤ 9223372036854775807) (hc : c.size ≤ 9223372036854775807) (hd : d.size ≤ 9223372036854775807) :
    Calls Try.prog 4 #[.string a, .string b, .string c, .string d] w fun e w' => e = .returned (.bool (decide (a.size + b.size + c.size + d.size ≤ 1048576))) ∧ w = w' := by
  go_enter Try.func4, Try.ntmps4
  go_wp2
  all_goals go_ret
  all_goals exact ⟨by simp; omega, rfl⟩

theorem col_true (s : ByteArray) (k : Nat) (h : k < s.size) (hk : s[k] = 58) : col s = true := by
  unfold col
  rw [List.any_eq_true]
  exact ⟨s[k], by show s.data[k] ∈ s.data.toList; simp, by simp [hk]⟩
theorem col_false (s : ByteArray) (h : ∀ j (hj : j < s.size), s[j] ≠ 58) : col s = false := by
  unfold col
  rw [List.any_eq_false]
  intro c hc
  obtain ⟨j, hj, rfl⟩ := List.getElem_of_mem hc
  have hj' : j < s.size := by simpa using hj
  have hne : s.data[j]'hj' ≠ 58 := h j hj'
  simpa using hne

set_option maxHeartbeats 400000 in
theorem hasColon5 (s : ByteArray) (w : World) (hs : s.size ≤ 9223372036854775807) :
    Calls Try.prog 5 #[.string s] w fun e w' => e = .returned (.bool (col s)) ∧ w = w' := by
  go_enter Try.func5, Try.ntmps5
  go_wp2
  go_loop [3] (fun i => ∃ k : Nat, k ≤ s.size ∧ i = .int .i64 k ∧ ∀ j (hj : j < s.size), j < k → s[j] ≠ 58) (fun i => s.size - (intOf i).toNat)
  case atStart => exact ⟨0, Nat.zero_le _, rfl, fun j _ h => by omega⟩
  case round =>
    obtain ⟨k, hk, rfl, hno⟩ := hrel
    have HN : Hid (∀ j (hj : j < s.size), j < k → s[j] ≠ 58) := hno
    clear hno
    by_cases hlt : k < s.size
    · by_cases h58 : s[k] = 58
      · have hb : (((s[k].toNat : Nat) : Int) == 58) = true := by rw [h58]; rfl
        have HC : Hid (col s = true) := col_true s k hlt h58
        clear h58
        go_wp2
        go_ret
        exact ⟨by rw [HC.out]; rfl, rfl⟩
      · have hb : (((s[k].toNat : Nat) : Int) == 58) = false := by
          rw [beq_eq_false_iff_ne]
          intro e
          exact h58 (UInt8.toNat_inj.1 (by have : s[k].toNat = 58 := by omega
                                           rw [this]; rfl))
        have H58 : Hid (s[k] ≠ 58) := h58
        clear h58
        go_wp2
        go_round
        case rel => exact ⟨k + 1, by omega, by go_num, fun j hj hlt' => by
          by_cases e : j = k
          · subst e; exact H58.out
          · exact HN.out j hj (by omega)⟩
        case measure => simp [intOf]; omega
    · have HC : Hid (col s = false) := col_false s (fun j hj => HN.out j hj (by omega))
      go_wp2
      go_ret
      exact ⟨by rw [HC.out]; rfl, rfl⟩

theorem key7 (ns nm : ByteArray) (w : World) (hs : ns.size ≤ 1048576) (ht : nm.size ≤ 1048576) : 
    Calls Try.prog 7 #[.string ns, .string nm] w fun e w' => e = .returned (.string (keyB ns nm)) ∧ w = w' := by
  cases hne : ns.toList.isEmpty with
  | true =>
    have K : Hid (keyB ns nm = nm) := by show _ = _; simp [keyB, hne]
    go_enter Try.func7, Try.ntmps7
    go_wp2
    go_ret
    exact ⟨by rw [K.out]; rfl, rfl⟩
  | false =>
    have K : Hid (keyB ns nm = ns ++ ⟨#[58]⟩ ++ nm) := by show _ = _; simp [keyB, hne]
    go_enter Try.func7, Try.ntmps7
    go_wp2
    go_ret
    exact ⟨by rw [K.out]; rfl, rfl⟩

theorem suffix9 (s t : ByteArray) (w : World) (hs : s.size ≤ 1048577) (ht : t.size ≤ s.size) (he : ((s.extract (s.size - t.size) s.size).toList == t.toList) = true) : 
    Calls Try.prog 9 #[.string s, .string t] w fun e w' => e = .returned (.bool true) ∧ w = w' := by
  go_enter Try.func9, Try.ntmps9
  go_wp2
  go_ret
  exact ⟨rfl, rfl⟩

/-! ### THE PLAIN LAW -/
def keyL (n m : List UInt8) : List UInt8 := if n.isEmpty then m else n ++ 58 :: m

theorem split_inj : ∀ (n1 n2 m1 m2 : List UInt8), 58 ∉ n1 → 58 ∉ n2 → n1 ++ 58 :: m1 = n2 ++ 58 :: m2 → n1 = n2 ∧ m1 = m2
  | [], [], m1, m2, _, _, h => ⟨rfl, by simpa using h⟩
  | [], b :: n2, m1, m2, _, h2, h => by
    simp at h
    exact absurd (by rw [← h.1]; simp) h2
  | a :: n1, [], m1, m2, h1, _, h => by
    simp at h
    exact absurd (by rw [h.1]; simp) h1
  | a :: n1, b :: n2, m1, m2, h1, h2, h => by
    simp at h h1 h2
    obtain ⟨rfl, h⟩ := h
    obtain ⟨rfl, rfl⟩ := split_inj n1 n2 m1 m2 h1.2 h2.2 h
    exact ⟨rfl, rfl⟩

theorem key_inj (n1 m1 n2 m2 : List UInt8) (h1 : 58 ∉ n1) (h2 : 58 ∉ n2) (e1 : n1 = [] → 58 ∉ m1) (e2 : n2 = [] → 58 ∉ m2) (h : keyL n1 m1 = keyL n2 m2) : n1 = n2 ∧ m1 = m2 := by
  cases n1 with
  | nil =>
    cases n2 with
    | nil => exact ⟨rfl, h⟩
    | cons b n2 =>
      simp only [keyL, List.isEmpty_nil, List.isEmpty_cons, if_true, Bool.false_eq_true, if_false] at h
      exact absurd (by rw [h]; simp) (e1 rfl)
  | cons a n1 =>
    cases n2 with
    | nil =>
      simp only [keyL, List.isEmpty_nil, List.isEmpty_cons, if_true, Bool.false_eq_true, if_false] at h
      exact absurd (by rw [← h]; simp) (e2 rfl)
    | cons b n2 =>
      simp only [keyL, List.isEmpty_cons, Bool.false_eq_true, if_false] at h
      exact split_inj _ _ _ _ h1 h2 h

theorem keyB_data (ns nm : ByteArray) : (keyB ns nm).data.toList = keyL ns.data.toList nm.data.toList := by
  unfold keyB keyL
  rw [Lib.toList_data]
  split
  · rfl
  · simp [ByteArray.data_append]

theorem col_not (s : ByteArray) (h : col s = false) : 58 ∉ s.data.toList := by
  unfold col at h
  rw [List.any_eq_false] at h
  intro hm
  exact h 58 hm (by decide)

/-- The law as the walk asks it. -/
theorem key_eq (a b c d : ByteArray) (h1 : col a = false) (h2 : col c = false) (e1 : a.toList.isEmpty = true → col b = false) (e2 : c.toList.isEmpty = true → col d = false) :
    ((keyB a b).toList == (keyB c d).toList) = ((a.toList == c.toList) && (b.toList == d.toList)) := by
  rw [Bool.eq_iff_iff, Bool.and_eq_true, beq_iff_eq, beq_iff_eq, beq_iff_eq]
  simp only [Lib.toList_data, keyB_data] at e1 e2 ⊢
  constructor
  · exact key_inj _ _ _ _ (col_not a h1) (col_not c h2) (fun h => col_not b (e1 (by rw [h]; rfl))) (fun h => col_not d (e2 (by rw [h]; rfl)))
  · rintro ⟨h, h'⟩; rw [h, h']

theorem keyB_size (ns nm : ByteArray) : nm.size ≤ (keyB ns nm).size ∧ (keyB ns nm).size ≤ ns.size + 1 + nm.size := by
  unfold keyB
  split
  · omega
  · simp [ByteArray.size_append]
    have : (ByteArray.mk #[58]).size = 1 := rfl
    omega

theorem size_list (s : ByteArray) : s.size = s.data.toList.length := by show s.data.size = _; simp

theorem keyB_suffix (ns nm : ByteArray) : (((keyB ns nm).extract ((keyB ns nm).size - nm.size) (keyB ns nm).size).toList == nm.toList) = true := by
  rw [beq_iff_eq, Lib.extract_toList, Lib.toList_data, keyB_data]
  have hs : (keyB ns nm).size = (keyL ns.data.toList nm.data.toList).length := by rw [← keyB_data]; exact size_list _
  have hn : nm.size = nm.data.toList.length := size_list _
  rw [hs, hn]
  clear hs hn
  generalize ns.data.toList = N
  generalize nm.data.toList = M
  unfold keyL
  split
  · simp
  · rw [show N ++ 58 :: M = (N ++ [58]) ++ M from by simp]
    have e : ((N ++ [58]) ++ M).length - M.length = (N ++ [58]).length := by simp; omega
    rw [e, List.drop_left]
    exact List.take_of_length_le (by simp; omega)

end Go.Proofs.Qxb6615089a.Parts
