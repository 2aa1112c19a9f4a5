/-
  FnRefusalChainJoinsPartsByDots: from the walk to the row and to the tied card.
-/
import Derived.Test.Qxb6615621aDoorWalk
import Derived.Test.Qxb6615621aDoorTie
import Derived.Test.Qxb6615621aDoorCards
import Derived.ProofKit
import Derived.OpenShut
import Derived.ShutString
import Derived.SliceStrings
import Derived.ChangeOld
import Derived.Carry
import Derived.LaidLaws
import Derived.LaidHandle
import Derived.LaidMore
import Derived.Stop.Joined
import Derived.SevenTiedAt
namespace Go.Proofs.Qxb6615621aDoor.Lift
open Go.ChangeShapes Go.WideShapes Go.ChangeAt Go.RowKit
open Go.ChangeMaps (open_string shut_string)
set_option linter.unusedVariables false

theorem own : ownKnob Tryd.prog.godebug = none := by kernel_rfl
theorem laidOut : laidOutB Tryd.prog = true := by kernel_rfl
theorem et : Tryd.prog.globalNamed "errors.errorType" = some 0 := by kernel_rfl
theorem oneRow : ((List.range 89).filter fun t => Tryd.prog.rowNamed t [101, 114, 114, 111, 114]) = [27] := by kernel_rfl
theorem size : Tryd.prog.types.size = 89 := by kernel_rfl

/-- WHAT THE CONDITION GIVES A WALK: the variable's one cell. -/
theorem handle_of_laid {W : World} (h : laidMetH Tryd.prog Rows.fnRefusalChainJoinsPartsByDotsRow.laid W) : Parts.Handle W := by
  have h' : laidMet Tryd.prog [] W ∧ handlesMet Tryd.prog Rows.fnRefusalChainJoinsPartsByDotsRow.laid W := h
  obtain ⟨name, u, ty, e1, e2, e3, e4, e5⟩ := h'.2 _ (List.mem_singleton.2 rfl)
  have en : name = [101, 114, 114, 111, 114] := (Option.some.inj e1).symm
  subst en
  have e2' : some 46 = some u := by rw [← e2]; kernel_rfl
  obtain rfl := Option.some.inj e2'
  have hm : ty ∈ (List.range 89).filter fun t => Tryd.prog.rowNamed t [101, 114, 114, 111, 114] := List.mem_filter.2 ⟨List.mem_range.2 (by rw [← size]; exact e3), e4⟩
  rw [oneRow] at hm
  obtain rfl := List.mem_singleton.1 hm
  have hh : typeHandle Tryd.prog 27 = .pointer (some ⟨1, 27, none⟩) := by kernel_rfl
  rw [hh] at e5
  simpa using World.var?_cell et e5 0

theorem door_met (os : Os) (args : Array Value) : laidMetH Tryd.prog Rows.fnRefusalChainJoinsPartsByDotsRow.laid ((World.doorLaid Tryd.prog 400 os).forCall (fun _ _ => 0) ⟨#[], args, []⟩).memory :=
  laidMetH_of_parts (laidMet_nil _ _) (by kernel_rfl)

set_option maxRecDepth 100000 in
set_option maxHeartbeats 1600000 in
theorem lifted (os : Os) (started : os.Started) (H : Type) (enc : TypeId × Value → H) :
    ReturnsInHanded {} Tryd.checked os 3 .any (fun w args => (Rows.fnRefusalChainJoinsPartsByDotsSpec.pre enc Tryd.prog Tryd.f3 [] false w args ∧ laidMetH Tryd.prog Rows.fnRefusalChainJoinsPartsByDotsRow.laid w) ∧ sizedMet enc Tryd.prog Tryd.f3 (OpenSpec.ofChange Rows.fnRefusalChainJoinsPartsByDotsSpec) false w args)
      (Rows.fnRefusalChainJoinsPartsByDotsSpec.post enc Tryd.prog Tryd.f3 false true false false) := by
  refine returnsInHanded_of_change_and (C := Tryd.checked) (X := fun w _ => laidMetH Tryd.prog Rows.fnRefusalChainJoinsPartsByDotsRow.laid w) (fun _ _ _ hh h => h.of_heap hh) own started (by kernel_rfl) Tryd.func3
    (ChangeSpec.witness_shaped (enc := enc) (C := Tryd.checked) (os := os) (X := fun w _ => laidMetH Tryd.prog Rows.fnRefusalChainJoinsPartsByDotsRow.laid w) false (World.doorLaid Tryd.prog 400 os) #[.string ByteArray.empty, .slice none 0 0] 8 rfl (World.shaped_of_RefB (by kernel_rfl) (by kernel_rfl)) (by kernel_rfl) (by kernel_rfl) (by kernel_rfl) (door_met os _)) ?_
  intro W base args ds gs before hval0 hW _ _ hL _
  have hval : ∀ (j : Nat) t v, Tryd.f3.params[j]? = some t → args[j]? = some v → Value.okWide Tryd.prog W .any base t v := hval0
  have hW' := hW
  obtain ⟨p, q, hA0, hV, rfl, hfz, hnd⟩ := hW
  have hA : DataW.TrodAll enc Tryd.prog W 0 (fun _ => true) true Tryd.f3.params.toList args.toList ds p := hA0
  rw [Tryd.params3] at hA hval
  obtain ⟨v0, v1, d0, d1, p0, p1, rfl, rfl, rfl, h0, h1⟩ := trodAll_two hA
  obtain ⟨rfl, rfl⟩ := trodVars_none hV
  obtain ⟨inner, rfl, rfl, rfl, hs⟩ := open_string Tryd.underlying9 (hval 0 9 v0 rfl rfl) h0
  obtain ⟨a1, len1, cap1, rfl⟩ := okWide_slice Tryd.underlying22 (hval 1 22 v1 rfl rfl)
  have k1 := h1
  have lt1 : ∀ x ∈ p1, x.block < W.heap.size := by obtain ⟨m, hm⟩ := k1; exact DataW.trod_lt m _ _ _ hm
  have hg := handle_of_laid hL
  clear hA0 hval0
  obtain ⟨ss, hst, hlen, hz⟩ : ∃ ss, Parts.Strs W a1 len1 ss ∧ len1 ≤ maxLen ∧ ∀ i, (ss.getD i ByteArray.empty).size ≤ maxLen := by
    obtain ⟨fuel, hf⟩ := h1
    rcases open_strings Tryd.underlying22 Tryd.underlying9 (by kernel_rfl) hf with ⟨hcs, _⟩ | ⟨x, l, c, ss, hcs, _, hl, hm, hz, _, hcell, hwz⟩
    · simp [Value.cells] at hcs
      obtain ⟨rfl, rfl, rfl⟩ := hcs
      exact ⟨[], ⟨rfl, fun h => by omega⟩, by unfold maxLen; omega, fun i => by simp⟩
    · simp [Value.cells] at hcs
      obtain ⟨rfl, rfl, rfl⟩ := hcs
      simp only [if_true] at hz
      have hll : len1 ≤ ss.length := by omega
      have hget : ∀ i, i < len1 → (ss.take len1).getD i ByteArray.empty = ss.getD i ByteArray.empty := fun i hi => by simp [List.getD, hi]
      refine ⟨ss.take len1, ⟨by simp; omega, fun hn => ?_⟩, by omega, fun i => ?_⟩
      · obtain ⟨b, o, sp⟩ := x
        have hsp : sp = none := by simpa [Addr.add] using World.cell?_spot (hcell 0 (by omega))
        subst hsp
        refine ⟨b, o, rfl, World.block_lt_of_cell? W _ (hcell 0 (by omega)), fun i hi => ?_⟩
        have := hcell i (by omega)
        rw [Addr.add_lit] at this
        rw [this, hget i hi]
      · by_cases hi : i < len1
        · rw [hget i hi]
          exact hwz _ (by rw [Walk.getD_at (by omega)]; exact List.getElem_mem _)
        · have hnone : (ss.take len1)[i]? = none := List.getElem?_eq_none (by simp; omega)
          rw [List.getD_eq_getElem?_getD, hnone]
          simp
  unfold maxLen at hs hlen hz
  refine (Walk.walk inner a1 len1 cap1 ss W (by omega) (by omega) hst (fun i => by have := hz i; omega) hg).mono fun e W' ⟨he, bel⟩ => ?_
  subst he
  exact ⟨_, rfl, _, _, _, [], _, [], hW', trodAll_mk1 (shut_bool Tryd.underlying4 _), trodAll_mk2 (shut_string Tryd.underlying9 (by unfold maxLen; omega)) (Below.trod laidOut (by kernel_rfl) (of_decide_eq_true (by kernel_rfl)) k1 bel lt1), rfl, bel.frame _, fun h => by cases h⟩

theorem holds : Rows.FnRefusalChainJoinsPartsByDotsSaid :=
  OpenClaim.holds_of_wide 3 Tryd.f3 rfl rfl rfl rfl rfl rfl rfl ⟨rfl, rfl, rfl, rfl, rfl⟩ rfl rfl rfl rfl rfl (by kernel_rfl) Tryd.func3 (by kernel_rfl)
    (of_decide_eq_true (by kernel_rfl)) (by unfold Func.isWrapper; rw [if_neg (of_decide_eq_false (by kernel_rfl))]; exact ⟨rfl, rfl⟩)
    (fun os started H enc _ => lifted os started H enc)

theorem named : Tryd.prog.funcNamed Rows.fnRefusalChainJoinsPartsByDotsRow.func = some 3 := by kernel_rfl

/-- THE STATEMENT. -/
theorem proved : Rows.FnRefusalChainJoinsPartsByDotsCardSaid :=
  Claim7.holds_tied_plain_at .later [] [.handle] true Rows.fnRefusalChainJoinsPartsByDotsCard.stood.harness true
    holds (fun _ h => by cases h) (by kernel_rfl) (fun _ h => by cases h) fnRefusalChainJoinsPartsByDots_row_tie rfl ⟨rfl, rfl⟩ (by kernel_rfl) rfl
    (fun f fn hf hfn => by
      obtain rfl : f = 3 := (Option.some.inj (named.symm.trans hf)).symm
      obtain rfl : fn = Tryd.f3 := (Option.some.inj (Tryd.func3.symm.trans hfn)).symm
      exact ⟨by kernel_rfl, fun j t ht => by
        rw [Tryd.params3] at ht
        have h3 : t = 9 ∨ t = 22 := by
          rcases j with _ | _ | j
          · exact .inl (by simpa using ht.symm)
          · exact .inr (by simpa using ht.symm)
          · simp at ht
        rcases h3 with rfl | rfl
        · exact (show Tryd.prog.wantsStandIn 9 = false by kernel_rfl)
        · exact (show Tryd.prog.wantsStandIn 22 = false by kernel_rfl)⟩)
    (by kernel_rfl)
#print axioms proved

end Go.Proofs.Qxb6615621aDoor.Lift
