/-
  FnRefusalChainJoinsPartsByDots: the plain law on joined texts, and the walk.
-/
import Derived.Test.Qxb6615621aDoorParts
import Derived.Deep.DeepCutAuto
namespace Go.Proofs.Qxb6615621aDoor.Walk
open Go.RowKit Parts
set_option linter.unusedVariables false
set_option maxRecDepth 100000

/-! ### THE PLAIN LAW -/
/-- The parts and the inner text, joined from the right (as Refusal does). -/
def joinR (l : List ByteArray) (inner : ByteArray) : ByteArray := l.foldr (fun s acc => s ++ ⟨#[46]⟩ ++ acc) inner
/-- The parts, each with its dot, from the left (as the law's own loop does). -/
def preL (l : List ByteArray) : ByteArray := l.foldl (fun acc s => acc ++ (s ++ ⟨#[46]⟩)) ⟨#[]⟩
/-- The sum that the law reckons. -/
def tot (l : List ByteArray) : Nat := (l.map (fun s => s.size + 16)).sum

theorem joinR_data (inner : ByteArray) : ∀ l : List ByteArray, (joinR l inner).data.toList = (l.flatMap fun s => s.data.toList ++ [46]) ++ inner.data.toList
  | [] => by simp [joinR]
  | s :: l => by
    have ih := joinR_data inner l
    unfold joinR at ih ⊢
    rw [List.foldr_cons]
    simp only [ByteArray.data_append, Array.toList_append, ih, List.flatMap_cons, List.append_assoc]

theorem fold_data : ∀ (l : List ByteArray) (a : ByteArray), (l.foldl (fun acc s => acc ++ (s ++ ⟨#[46]⟩)) a).data.toList = a.data.toList ++ l.flatMap fun s => s.data.toList ++ [46]
  | [], a => by simp
  | s :: l, a => by
    rw [List.foldl_cons, fold_data l]
    simp only [ByteArray.data_append, Array.toList_append, List.flatMap_cons, List.append_assoc]

theorem preL_data (l : List ByteArray) : (preL l).data.toList = l.flatMap fun s => s.data.toList ++ [46] := by
  unfold preL
  rw [fold_data]
  simp

theorem same (l : List ByteArray) (inner : ByteArray) : ((joinR l inner).toList == (preL l ++ inner).toList) = true := by
  rw [beq_iff_eq, Lib.toList_data, Lib.toList_data, joinR_data, ByteArray.data_append, Array.toList_append, preL_data]

theorem flat_len : ∀ l : List ByteArray, (l.flatMap fun s => s.data.toList ++ [46]).length ≤ tot l
  | [] => by simp [tot]
  | s :: l => by
    have ih := flat_len l
    have hs := Lib.size_eq s
    unfold tot at ih ⊢
    simp only [List.flatMap_cons, List.length_append, List.map_cons, List.sum_cons, List.length_cons, List.length_nil] at ih ⊢
    omega

theorem joinR_size (l : List ByteArray) (inner : ByteArray) : (joinR l inner).size ≤ tot l + inner.size := by
  rw [Lib.size_eq, joinR_data, List.length_append, ← Lib.size_eq]
  have := flat_len l
  omega
theorem preL_size (l : List ByteArray) : (preL l).size ≤ tot l := by
  rw [Lib.size_eq, preL_data]
  exact flat_len l

theorem getD_at {l : List ByteArray} {k : Nat} (h : k < l.length) : l.getD k ByteArray.empty = l[k] := by simp [List.getD, h]

theorem tot_take_succ (l : List ByteArray) (k : Nat) (h : k < l.length) : tot (l.take (k + 1)) = tot (l.take k) + ((l.getD k ByteArray.empty).size + 16) := by
  unfold tot
  rw [List.take_succ_eq_append_getElem h, getD_at h, List.map_append, List.sum_append, List.map_cons, List.sum_cons, List.map_nil, List.sum_nil, Nat.add_zero]
theorem tot_drop_le (l : List ByteArray) (k : Nat) : tot (l.drop k) ≤ tot l := by
  have e : tot l = tot (l.take k) + tot (l.drop k) := by
    unfold tot
    rw [← List.sum_append, ← List.map_append, List.take_append_drop]
  omega
theorem tot_take_le (l : List ByteArray) (k : Nat) : tot (l.take k) ≤ tot l := by
  have e : tot l = tot (l.take k) + tot (l.drop k) := by
    unfold tot
    rw [← List.sum_append, ← List.map_append, List.take_append_drop]
  omega
theorem joinR_drop (l : List ByteArray) (inner : ByteArray) (m : Nat) (h : m < l.length) : joinR (l.drop m) inner = l.getD m ByteArray.empty ++ ⟨#[46]⟩ ++ joinR (l.drop (m + 1)) inner := by
  rw [List.drop_eq_getElem_cons h, getD_at h]
  rfl
theorem preL_take (l : List ByteArray) (k : Nat) (h : k < l.length) : preL (l.take (k + 1)) = preL (l.take k) ++ (l.getD k ByteArray.empty ++ ⟨#[46]⟩) := by
  unfold preL
  rw [List.take_succ_eq_append_getElem h, getD_at h, List.foldl_append]
  rfl

/-! ### THE WALK -/
set_option maxHeartbeats 4000000 in
theorem walk (inner : ByteArray) (a : Option Addr) (n c : Nat) (ss : List ByteArray) (w : World) (hi : inner.size ≤ 9223372036854775807) (hn : n ≤ 9223372036854775807) (hs : Strs w a n ss) (hz : ∀ i, (ss.getD i ByteArray.empty).size ≤ 9223372036854775807) (hg : Handle w) :
    Calls Tryd.prog 3 #[.string inner, .slice a n c] w fun e w' => e = .returned (.bool true) ∧ Below w.heap.size w w' := by
  go_enter Tryd.func3, Tryd.ntmps3
  go_wp2_with fail
  refine (zz4 inner a n c ss _ hi hn hs hz).mono ?_
  rintro e w' ⟨⟨b, rfl, hb⟩, rfl⟩
  cases b with
  | false =>
    go_wp2
    go_ret
    exact ⟨rfl, Below.refl _ _⟩
  | true =>
  obtain ⟨g1, g2, g3⟩ := hb rfl
  clear hi hn hz hb
  have G3 : Hid (∀ i, i < n → (ss.getD i ByteArray.empty).size ≤ 1048576) := g3
  clear g3
  by_cases b1 : n ≤ 256
  case neg =>
    go_wp2
    go_ret
    exact ⟨rfl, Below.refl _ _⟩
  by_cases b2 : inner.size ≤ 65536
  case neg =>
    go_wp2
    go_ret
    exact ⟨rfl, Below.refl _ _⟩
  have HL : Hid (ss.length = n) := hs.1
  have l0 := World.block_lt_of_cell? w _ hg
  have HG : Hid (Handle w) := hg
  clear hg
  go_wp2
  go_loop [5, 6] (fun z i => ∃ k : Nat, k ≤ n ∧ i = .int .i64 k ∧ z = .int .i64 ((inner.size + tot (ss.take k) : Nat) : Int) ∧ inner.size + tot (ss.take k) ≤ 65536) (fun _ i => n - (intOf i).toNat)
  case atStart => exact ⟨0, Nat.zero_le _, rfl, by simp [tot], by simp [tot]; omega⟩
  case round =>
    obtain ⟨k, hk, rfl, rfl, hsum⟩ := hrel
    by_cases hlt : k < n
    · obtain ⟨bb, oo, rfl, hbb, hcell⟩ := hs.2 (by omega)
      have hcr := hcell k hlt
      have hzk := G3.out k hlt
      have HT : Hid (tot (ss.take (k + 1)) = tot (ss.take k) + ((ss.getD k ByteArray.empty).size + 16)) := tot_take_succ ss k (by rw [HL.out]; exact hlt)
      obtain ⟨s, HS⟩ : ∃ s, Hid (s = ss.getD k ByteArray.empty) := ⟨_, rfl⟩
      rw [← HS.out] at hcr hzk HT
      clear hcell hs
      obtain ⟨T, HTT⟩ : ∃ T, Hid (T = inner.size + tot (ss.take k)) := ⟨_, rfl⟩
      rw [← HTT.out] at hsum ⊢
      go_upto_region 10 with fail
      obtain ⟨V, HV⟩ : ∃ V, Hid (V = T + (s.size + 16)) := ⟨_, rfl⟩
      have eV : ((T : Nat) : Int) + (((s.size : Nat) : Int) + 16) = ((V : Nat) : Int) := by have := HV.out; omega
      rw [eV]
      clear eV
      by_cases hle : V ≤ 65536
      · go_wp2
        go_round
        case rel =>
          refine ⟨k + 1, by omega, by go_num, ?_, ?_⟩
          · have e : inner.size + tot (ss.take (k + 1)) = V := by rw [HT.out, HV.out, HTT.out]; omega
            rw [e]
          · rw [HT.out]; have := HTT.out; have := HV.out; omega
        case measure => simp [intOf]; omega
      · go_wp2
        go_ret
        exact ⟨rfl, Below.refl _ _⟩
    · have hkn : n = k := by omega
      subst hkn
      have etake : ss.take n = ss := List.take_of_length_le (by rw [HL.out]; exact Nat.le_refl _)
      have HSUM : inner.size + tot ss ≤ 65536 := by rw [etake] at hsum; exact hsum
      clear hsum etake hlt hk
      go_wp2_with fail
      refine (refusal_nil inner _).mono ?_
      rintro e w1 ⟨gr, rfl, hR, hB1⟩
      go_wp2_with fail
      have hR1 : Ref w1 gr (joinR (ss.drop n) inner) := by
        rw [List.drop_of_length_le (by rw [HL.out]; exact Nat.le_refl _)]; exact hR
      clear hR
      go_loopw [7, 8] (fun r i wr => ∃ (m g : Nat) (z : Int), m ≤ n ∧ z = (m : Int) - 1 ∧ i = .int .i64 z ∧ r = .pointer (some ⟨g, 0, none⟩) ∧ Ref wr g (joinR (ss.drop m) inner) ∧ Below w.heap.size w wr) (fun _ i _ => (intOf i + 1).toNat)
      case atStart => exact ⟨n, gr, _, Nat.le_refl _, rfl, rfl, rfl, hR1, hB1⟩
      case round =>
        clear hR1 hB1
        obtain ⟨m, g, z, hm, hz, rfl, rfl, hR, hB⟩ := hrel
        cases m with
        | succ m =>
          have hz' : z = (m : Int) := by omega
          subst hz'
          clear hz
          obtain ⟨bb, oo, rfl, hbb, hcell⟩ := hs.2 (by omega)
          have hcr := cell_later hB (hcell m (by omega))
          have hzk := G3.out m (by omega)
          have HJ : Hid (joinR (ss.drop m) inner = ss.getD m ByteArray.empty ++ ⟨#[46]⟩ ++ joinR (ss.drop (m + 1)) inner) := joinR_drop ss inner m (by rw [HL.out]; omega)
          obtain ⟨s, HS⟩ : ∃ s, Hid (s = ss.getD m ByteArray.empty) := ⟨_, rfl⟩
          rw [← HS.out] at hcr hzk HJ
          have hjs : (joinR (ss.drop (m + 1)) inner).size ≤ 65536 := by
            have h1 := joinR_size (ss.drop (m + 1)) inner
            have h2 := tot_drop_le ss (m + 1)
            omega
          clear hcell
          go_wp2_with fail
          refine (refusal_hit s (joinR (ss.drop (m + 1)) inner) g _ (cell_later hB HG.out) hR hzk (by omega)).mono ?_
          rintro e w2 ⟨g', rfl, hR', hB'⟩
          have hR2 : Ref w2 g' (joinR (ss.drop m) inner) := by rw [HJ.out]; exact hR'
          have hB2 : Below w.heap.size w w2 := hB.trans (hB'.mono hB.size)
          clear hR hR' hB hB' hcr
          go_wp2_with fail
          go_roundw
          case rel => exact ⟨m, g', (m : Int) - 1, by omega, rfl, rfl, rfl, hR2, hB2⟩
          case measure => simp [intOf]
        | zero =>
          have hz' : z = -1 := by omega
          subst hz'
          clear hz
          have hR0 : Ref wr g (joinR ss inner) := by simpa using hR
          clear hR
          have sW := hs.below hB
          obtain ⟨R0, R1⟩ := hR0
          go_wp2_with fail
          go_loop [9, 10] (fun v i => ∃ j : Nat, j ≤ n ∧ i = .int .i64 j ∧ v = .string (preL (ss.take j))) (fun _ i => n - (intOf i).toNat)
          case atStart => exact ⟨0, Nat.zero_le _, rfl, rfl⟩
          case round =>
            obtain ⟨j, hj, rfl, rfl⟩ := hrel
            have hps : (preL (ss.take j)).size ≤ 65536 := by
              have h1 := preL_size (ss.take j)
              have h2 := tot_take_le ss j
              omega
            by_cases hlt : j < n
            · obtain ⟨bb, oo, rfl, hbb, hcell⟩ := sW.2 (by omega)
              have hcr := hcell j hlt
              have hzk := G3.out j hlt
              have HP : Hid (preL (ss.take (j + 1)) = preL (ss.take j) ++ (ss.getD j ByteArray.empty ++ ⟨#[46]⟩)) := preL_take ss j (by rw [HL.out]; exact hlt)
              obtain ⟨s, HS⟩ : ∃ s, Hid (s = ss.getD j ByteArray.empty) := ⟨_, rfl⟩
              rw [← HS.out] at hcr hzk HP
              clear hcell
              obtain ⟨q, HQ⟩ : ∃ q, Hid (q = preL (ss.take j)) := ⟨_, rfl⟩
              rw [← HQ.out] at hps HP ⊢
              go_wp2_with fail
              go_round
              case rel => exact ⟨j + 1, by omega, by go_num, by rw [HP.out]⟩
              case measure => simp [intOf]; omega
            · have hjn : n = j := by omega
              subst hjn
              have etake : ss.take n = ss := List.take_of_length_le (by rw [HL.out]; exact Nat.le_refl _)
              rw [etake] at hps ⊢
              have hE := same ss inner
              obtain ⟨q, HQ⟩ : ∃ q, Hid (q = preL ss) := ⟨_, rfl⟩
              obtain ⟨jr, HJR⟩ : ∃ jr, Hid (jr = joinR ss inner) := ⟨_, rfl⟩
              rw [← HQ.out] at hps hE ⊢
              rw [← HJR.out] at R0 hE
              clear etake sW hs hlt
              go_wp2
              go_ret
              exact ⟨rfl, hB⟩

end Go.Proofs.Qxb6615621aDoor.Walk
