/-
  FnI32TypeSaysHowItIsWritten: from the walk to the told and tied card.
-/
import Derived.Test.Qxb6615904aFmtRoad
import Derived.Test.Qxb6615904aFmtTie
import Derived.Test.Qxb6615904aFmtCards
import Derived.ProofKit
import Derived.OpenShut
import Derived.ChangeOld
import Derived.Carry
import Derived.LaidMore
import Derived.Lib.LaidU8
import Derived.Stop.Joined
import Derived.Stop.JoinedAt
import Derived.Stop.JoinedTold
import Derived.Deep.DeepWitnessRef
import Derived.SevenTiedAt
namespace Go.Proofs.Qxb6615904aFmt.Lift
open Go.ChangeShapes Go.WideShapes Go.ChangeAt Go.RowKit
open Go.Extern.Stop Go.Stop Go.Extern
set_option linter.unusedVariables false

theorem own : ownKnob Tryf.prog.godebug = none := by kernel_rfl
theorem laidOut : laidOutB Tryf.prog = true := by kernel_rfl

/-- Named variables below the heap's old size read as they did. -/
theorem vars_stay {H : Type} {enc : TypeId × Value → H} {P : Program} {W W' : World} (hl : laidOutB P = true) (hb : Below W.heap.size W W') :
    ∀ {ns : List String} {gs : List (DataW H)} {ps : List MemPlace},
      (∀ n ∈ ns, ∀ g t, P.globalNamed n = some g → (P.globals[g]?).map (·.type) = some t → P.readableRec t = true ∧ t < P.types.size) →
      DataW.TrodVars enc P W (fun _ => true) ns gs ps → DataW.TrodVars enc P W' (fun b => decide (b < W.heap.size)) ns gs ps
  | [], [], _, _, h => h
  | [], _ :: _, _, _, h => by simp [DataW.TrodVars] at h
  | _ :: _, [], _, _, h => by simp [DataW.TrodVars] at h
  | n :: ns, d :: ds, ps, hr, h => by
    have hlt := DataW.TrodVars.lt h
    obtain ⟨g, t, cs, fuel, p, q, h1, h2, h3, h4, h5, rfl⟩ := h
    obtain ⟨r1, r2⟩ := hr n (by simp) g t h1 h2
    have hg : g < W.heap.size := by
      unfold World.var? at h3
      rw [h1] at h3
      rcases Nat.lt_or_ge g W.heap.size with hh | hh
      · exact hh
      · simp [Array.getElem?_eq_none hh] at h3
    refine ⟨g, t, cs, fuel, p, q, h1, h2, var?_below hb h1 hg h3, ?_, vars_stay hl hb (fun m hm => hr m (by simp [hm])) h5, rfl⟩
    exact DataW.trod_stays (kids_book hl r1) (book_sized r1) (fun h => by cases h) ⟨r2, book_self t⟩ h4
      (fun x hx => hb.same (hlt x (by simp [hx]))) (fun x hx => by simpa using hlt x (by simp [hx]))

/-- The two variables' names, off the given specification. -/
def nErr : String := Rows.fnI32TypeSaysHowItIsWrittenSpec.vars.getD 0 ""
def nTypes : String := Rows.fnI32TypeSaysHowItIsWrittenSpec.vars.getD 1 ""
theorem gErr : Tryf.prog.globalNamed nErr = some 2 := by kernel_rfl
theorem gTypes : Tryf.prog.globalNamed nTypes = some 0 := by kernel_rfl
theorem tErr : (Tryf.prog.globals[2]?).map (·.type) = some 27 := by kernel_rfl
theorem tTypes : (Tryf.prog.globals[0]?).map (·.type) = some 56 := by kernel_rfl

theorem readable : ∀ n ∈ Rows.fnI32TypeSaysHowItIsWrittenSpec.vars, ∀ g t, Tryf.prog.globalNamed n = some g → (Tryf.prog.globals[g]?).map (·.type) = some t → Tryf.prog.readableRec t = true ∧ t < Tryf.prog.types.size := by
  intro n hn g t hg ht
  have hn' : n ∈ [nErr, nTypes] := hn
  have : n = nErr ∨ n = nTypes := by simpa using hn'
  rcases this with rfl | rfl
  · obtain rfl := Option.some.inj (gErr.symm.trans hg)
    obtain rfl := Option.some.inj (tErr.symm.trans ht)
    exact ⟨by kernel_rfl, of_decide_eq_true (by kernel_rfl)⟩
  · obtain rfl := Option.some.inj (gTypes.symm.trans hg)
    obtain rfl := Option.some.inj (tTypes.symm.trans ht)
    exact ⟨by kernel_rfl, of_decide_eq_true (by kernel_rfl)⟩

theorem at_of {l : List Value} {k j : Nat} {v : Value} (hj : j < 2) (h : List.take 1 (List.drop j (List.take 2 (List.drop k l))) = [v]) : l[k + j]? = some v := by
  have e := congrArg (fun x => x[0]?) h
  simp only [List.getElem?_take, List.getElem?_drop, Nat.zero_lt_one, if_true, Nat.add_zero, if_pos hj, List.getElem?_cons_zero] at e
  exact e

/-- WHAT 'laid' GIVES: the two cells of the table that the road reads. -/
theorem of_laid {W : World} (h : laidMetH Tryf.prog Rows.fnI32TypeSaysHowItIsWrittenRow.laid W) :
    W.cell? ⟨0, 16, none⟩ = some (.string ⟨#[105, 51, 50]⟩) ∧ W.cell? ⟨0, 17, none⟩ = some (.int .i64 4) := by
  have h' : laidMet Tryf.prog Rows.fnI32TypeSaysHowItIsWrittenRow.laid W := h
  obtain ⟨g, t, cs, f, p, hg, ht, hv, hd⟩ := Lib.laidMet.reads h' (n := nTypes) (d := Rows.laid_example_com_lockframe_lockframe_thrift_types) (by simp [Rows.fnI32TypeSaysHowItIsWrittenRow, nTypes, Rows.fnI32TypeSaysHowItIsWrittenSpec])
  obtain rfl := Option.some.inj (gTypes.symm.trans hg)
  obtain rfl := Option.some.inj (tTypes.symm.trans ht)
  obtain ⟨xs, m, rfl, hx, hlen, hn, hel⟩ := DataW.trod_array Tryf.underlying56 hd
  have c55 : Tryf.prog.cellsOf 55 = 2 := by kernel_rfl
  have c9 : Tryf.prog.cellsOf 9 = 1 := by kernel_rfl
  have c3 : Tryf.prog.cellsOf 3 = 1 := by kernel_rfl
  have h8 := hel 8 (by decide)
  simp only [Prod.mk.injEq] at hx
  have hx8 : xs[8]?.map (·.1) = some (.agg [.lit (.string [105, 51, 50]), .lit (.int .i64 4)]) := by
    have e : (xs.map (·.1))[8]? = some (.agg [.lit (.string [105, 51, 50]), .lit (.int .i64 4)]) := by
      have := hx.1
      simp only [Rows.laid_example_com_lockframe_lockframe_thrift_types, DataW.agg.injEq] at this
      rw [← this]; rfl
    simpa using e
  obtain ⟨y, hy⟩ : ∃ y, xs[8]? = some y := ⟨_, List.getElem?_eq_getElem (by omega)⟩
  rw [hy] at h8 hx8
  obtain ⟨y0, y1, k, he, hl2, hs0, hs1⟩ := trod_struct2 Tryf.underlying55 h8
  obtain ⟨s, e0, rfl, _⟩ := DataW.trod_string Tryf.underlying9 hs0
  obtain ⟨z, e1, rfl, _⟩ := DataW.trod_int Tryf.underlying3 hs1
  subst he
  simp only [Option.map_some, Option.some.injEq, DataW.agg.injEq, List.cons.injEq, DataW.lit.injEq, Lit.string.injEq, Lit.int.injEq, and_true, true_and] at hx8
  obtain ⟨rfl, hsd⟩ : z = 4 ∧ s.data.toList = [105, 51, 50] := ⟨hx8.2, hx8.1⟩
  have hs : s = ⟨#[105, 51, 50]⟩ := by
    obtain ⟨⟨l⟩⟩ := s
    simp at hsd; subst hsd; rfl
  subst hs
  have v0 := World.var?_cell gTypes hv 16
  have v1 := World.var?_cell gTypes hv 17
  dsimp only at e0 e1
  simp only [c55, c9] at e0
  simp only [c55, c3] at e1
  have a0 := at_of (k := 8 * 2) (j := 0) (by omega) e0
  have a1 := at_of (k := 8 * 2) (j := 1) (by omega) e1
  refine ⟨v0.trans ?_, v1.trans ?_⟩
  · simpa using a0
  · simpa using a1

theorem door_met (os : Os) (args : Array Value) : laidMetH Tryf.prog Rows.fnI32TypeSaysHowItIsWrittenRow.laid ((World.doorLaid Tryf.prog 400 os).forCall (fun _ _ => 0) ⟨#[], args, []⟩).memory :=
  laidMetH_of_parts3 (fuel := 8) (laidMet_of_run' 8 (by kernel_rfl) (by kernel_rfl)) (by kernel_rfl) (by kernel_rfl)

set_option maxRecDepth 100000 in
set_option maxHeartbeats 1600000 in
theorem lifted (os : Os) (started : os.Started) (H : Type) (enc : TypeId × Value → H) :
    ReturnsInTold none {} Tryf.checked os 4 .any Input.okWide ((OpenSpec.ofChange Rows.fnI32TypeSaysHowItIsWrittenSpec).preRow enc Tryf.prog Tryf.f4 [] false Rows.fnI32TypeSaysHowItIsWrittenRow.laid)
      (fun F => ((OpenSpec.ofChange Rows.fnI32TypeSaysHowItIsWrittenSpec).at F).post enc Tryf.prog Tryf.f4 false true false false) (aloneAtReturn Tryf.prog) nothingAlways := by
  refine returnsInTold_of_row (C := Tryf.checked) (s := OpenSpec.ofChange Rows.fnI32TypeSaysHowItIsWrittenSpec) (by kernel_rfl) own started (by kernel_rfl) Tryf.func4
    (OpenSpec.witness_stopped_atRef (enc := enc) (C := Tryf.checked) false (World.doorLaid Tryf.prog 400 os) #[.int .i32 0, .int .i16 0] rfl (by kernel_rfl) (by kernel_rfl) (by kernel_rfl)
      (OpenSpec.preRow_of_B rfl 8 (by kernel_rfl) (by kernel_rfl) (door_met os _))) ?_
  intro F W base args ds gs before _ hF hval0 hW _ _ _ hL _
  have hval : ∀ (j : Nat) t v, Tryf.f4.params[j]? = some t → args[j]? = some v → Value.okWide Tryf.prog W .any base t v := hval0
  have hW' := hW
  obtain ⟨p, q, hA0, hV0, rfl, hfz, hnd⟩ := hW
  have hA : DataW.TrodAll enc Tryf.prog W 0 (fun _ => true) true Tryf.f4.params.toList args.toList ds p := hA0
  have hV : DataW.TrodVars enc Tryf.prog W (fun _ => true) Rows.fnI32TypeSaysHowItIsWrittenSpec.vars gs q := hV0
  rw [Tryf.params4] at hA hval
  obtain ⟨v0, v1, d0, d1, p0, p1, rfl, rfl, rfl, h0, h1⟩ := trodAll_two hA
  obtain ⟨x, rfl, rfl, rfl, wx⟩ := open_int Tryf.underlying21 (hval 0 21 v0 rfl rfl) h0
  obtain ⟨id, rfl, rfl, rfl, wid⟩ := open_int Tryf.underlying33 (hval 1 33 v1 rfl rfl) h1
  obtain ⟨t0, t1⟩ := of_laid hL
  clear hA0 hV0 hval0
  have bx := bounds_i32 wx
  have bi := bounds_i16 wid
  obtain ⟨z0, z1, rfl⟩ : ∃ z0 z1, gs = [z0, z1] := by
    obtain ⟨_, _, _, _, z0, _, _, _, _, _, z1, _, rfl, _⟩ := trodVars_two hV
    exact ⟨z0, z1, rfl⟩
  refine (Road.law4 x id W t0 t1 (by omega) (by omega) (by omega) (by omega)).mono fun e W' ⟨he, hb⟩ => ?_
  subst he
  exact ⟨_, rfl, _, _, _, [], [] ++ [], q, hW', trodAll_mk1 (shut_bool Tryf.underlying4 _), trodAll_mk2 (shut_int Tryf.underlying21 wx) (shut_int Tryf.underlying33 wid), vars_stay laidOut hb readable hV, hb.frame _, fun h => by cases h⟩

theorem stops : Tryf.pinned.checked.prog.stops = Rows.fnI32TypeSaysHowItIsWrittenRow.stops := by kernel_rfl
theorem stopKnobs : Tryf.pinned.checked.prog.stopKnobs = [] := by kernel_rfl
theorem quiet (os : Os) : Stop.quiet Tryf.pinned.checked.prog os := by
  intro k hk
  rw [stopKnobs] at hk
  cases hk
theorem laidOut' : laidOutB Tryf.pinned.checked.prog = true := by kernel_rfl

/-- THE STATEMENT. -/
theorem proved : Rows.FnI32TypeSaysHowItIsWrittenToldSaid :=
  Claim7.holds_of_told_tied_any_at .later 4 Tryf.f4 (Rows.fnI32TypeSaysHowItIsWrittenRow.stops.getD 0 "") [] [] _ _ _ _ _ (by kernel_rfl) rfl rfl rfl laidOut' (by kernel_rfl) rfl ⟨rfl, rfl, rfl, rfl, rfl, rfl, rfl⟩ rfl rfl (by kernel_rfl) (by kernel_rfl) Tryf.func4 (by kernel_rfl)
    (of_decide_eq_true (by kernel_rfl)) (of_decide_eq_true (by kernel_rfl)) stops.symm rfl stopKnobs.symm (by kernel_rfl)
    (by kernel_rfl) (by kernel_rfl) (by kernel_rfl) (by kernel_rfl) (by kernel_rfl) (by kernel_rfl) (by kernel_rfl) (by kernel_rfl) (by kernel_rfl) rfl (by kernel_rfl) rfl rfl
    rfl rfl
    rfl (by kernel_rfl) (by kernel_rfl) (by kernel_rfl) (by decide) (by kernel_rfl) fnI32TypeSaysHowItIsWritten_row_tie
    (OpenClaim.moreEntering_of (by kernel_rfl) (by kernel_rfl) (by kernel_rfl) (by kernel_rfl) (by kernel_rfl) (by kernel_rfl) (by kernel_rfl) (by kernel_rfl) (by kernel_rfl) (by kernel_rfl))
    ⟨_, WideRow.started_initial, quiet _⟩
    (fun os started _ H enc _ => lifted os started H enc)
#print axioms proved

end Go.Proofs.Qxb6615904aFmt.Lift
