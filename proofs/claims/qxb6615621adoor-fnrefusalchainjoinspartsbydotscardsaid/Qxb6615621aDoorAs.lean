/-
  errors.As at the concrete target *RefusedError, by two contracts; turned from the guide's worked toy (ToyasAs) to this dump's numbers.
-/
import Derived.Test.Qxb6615621aDoorRows
import Derived.WalkKit
import Derived.LaidEql
import Derived.Stop.Asserts
import Derived.RowKitTokens
namespace Go.Proofs.Qxb6615621aDoor.As
open Go.RowKit Go.Extern.Stop Go.Stop Go.Extern

/-- errors.As(nil, target). -/
theorem as_nil (t : Value) (w : World) :
    Calls Tryd.prog 6 #[.nilIface, t] w fun e w' => e = .returned (.bool false) ∧ w' = w := by
  go_enter Tryd.func6, Tryd.ntmps6
  go_wp2
  go_ret
  exact ⟨rfl, rfl⟩

/-! ### CLOSED FACTS ON THE MODEL's ENTRIES FOR internal/reflectlite, at this program's types: 25: *p.E · 27: **p.E · 23: error · 45: reflectlite's rtype · 1: how many package-level variables the dump has -/
theorem valueOf31 (t : Addr) (w : World) : (ReflectliteValue.unpack (.iface 31 (.pointer (some t)))).run Tryd.prog w
    = .ok (.agg #[.pointer (some ⟨1, 31, none⟩), .pointer (some ⟨w.heap.size, 0, none⟩), .int .u64 150]) (w.alloc (.cells #[.pointer (some t)] 31)) := by kernel_rfl
theorem type31 (a : Addr) (w : World) : (ReflectliteValue.methodAny (ReflectliteValue.valueError "reflectlite.Value.Type" 0) (fun t _ _ _ => ReflectliteType.toType t) #[.agg #[.pointer (some ⟨1, 31, none⟩), .pointer (some a), .int .u64 150]]).run Tryd.prog w
    = .ok (.iface 46 (.agg #[.pointer (some ⟨1, 31, none⟩)])) w := by kernel_rfl
theorem methodKind (h : Value) (w : World) : (Go.method 189 46 (.agg #[h]) "Kind").run Tryd.prog w = .ok (28, h) w := by kernel_rfl
theorem kind31 (w : World) : ((ReflectliteType.abiMethod fun t => (fun a : Nat => Value.int IntKind.u8 (a : Int)) <$> Rtype.kind t) #[.pointer (some ⟨1, 31, none⟩)]).run Tryd.prog w = .ok (.int .u8 22) w := by kernel_rfl
theorem kind24 (w : World) : ((ReflectliteType.abiMethod fun t => (fun a : Nat => Value.int IntKind.u8 (a : Int)) <$> Rtype.kind t) #[.pointer (some ⟨1, 24, none⟩)]).run Tryd.prog w = .ok (.int .u8 22) w := by kernel_rfl

/-! ### THE ENTRIES THAT READ OR WRITE MEMORY: laws with a premise on the cell (after Derived/Lib/ReflectliteSlice.lean's manner: each unfolding a lemma of its own, by rfl) -/
/-- A method of a Value is run upon the Value's parts; what it comes to where they are there (nothing of the model is written out: the continuation is found by Lean). -/
theorem rlm (z : Sem Value) (f : TypeId → Addr → Nat → Nat → Sem Value) (v : Value) :
    ∃ K : Option (TypeId × Addr × Nat) → Sem Value, ReflectliteValue.method z f #[v] = (ReflectliteValue.parts v >>= K) ∧ ∀ t a fl, K (some (t, a, fl)) = f t a fl (fl % 32) :=
  ⟨_, rfl, fun _ _ _ => rfl⟩
theorem parts31 (a : Addr) (w : World) : (ReflectliteValue.parts (.agg #[.pointer (some ⟨1, 31, none⟩), .pointer (some a), .int .u64 150])).run Tryd.prog w = .ok (some (31, a, 150)) w := by kernel_rfl
/-- (Value).IsNil at the Value of a **p.E that is not nil. -/
theorem isNil31 (a p : Addr) (W : World) (ha : W.cell? a = some (.pointer (some p))) :
    (ReflectliteValue.method (ReflectliteValue.valueError "reflectlite.Value.IsNil" 0) ReflectliteValue.isNil #[.agg #[.pointer (some ⟨1, 31, none⟩), .pointer (some a), .int .u64 150]]).run Tryd.prog W = .ok (.bool false) W := by
  obtain ⟨K, hK, hs⟩ := rlm (ReflectliteValue.valueError "reflectlite.Value.IsNil" 0) ReflectliteValue.isNil (.agg #[.pointer (some ⟨1, 31, none⟩), .pointer (some a), .int .u64 150])
  rw [hK]
  simp only [Sem.run_bind, parts31, Result.andThen, hs]
  simp [ReflectliteValue.isNil, loadVar, isAgg, underlying, Tryd.underlying31, ha, Result.andThen]

theorem methodElem (h : Value) (w : World) : (Go.method 189 46 (.agg #[h]) "Elem").run Tryd.prog w = .ok (38, .agg #[h]) w := by kernel_rfl
theorem methodImplements (h : Value) (w : World) : (Go.method 189 46 (.agg #[h]) "Implements").run Tryd.prog w = .ok (39, .agg #[h]) w := by kernel_rfl
theorem methodAssignableTo (h : Value) (w : World) : (Go.method 189 46 (.agg #[h]) "AssignableTo").run Tryd.prog w = .ok (36, .agg #[h]) w := by kernel_rfl
theorem elem31 (w : World) : (ReflectliteType.method ReflectliteType.elem #[.agg #[.pointer (some ⟨1, 31, none⟩)]]).run Tryd.prog w = .ok (.iface 46 (.agg #[.pointer (some ⟨1, 24, none⟩)])) w := by kernel_rfl
theorem implements24 (w : World) : (ReflectliteType.relation "Implements" ReflectliteType.implements_ #[.agg #[.pointer (some ⟨1, 24, none⟩)], .iface 46 (.agg #[.pointer (some ⟨1, 27, none⟩)])]).run Tryd.prog w = .ok (.bool true) w := by kernel_rfl
theorem typeOf24 (v : Value) (w : World) : (ReflectliteType.typeOf #[.iface 24 v]).run Tryd.prog w = .ok (.iface 46 (.agg #[.pointer (some ⟨1, 24, none⟩)])) w := by kernel_rfl
theorem assignable24 (w : World) : (ReflectliteType.relation "AssignableTo" ReflectliteType.assignableTo #[.agg #[.pointer (some ⟨1, 24, none⟩)], .iface 46 (.agg #[.pointer (some ⟨1, 24, none⟩)])]).run Tryd.prog w = .ok (.bool true) w := by kernel_rfl
theorem valueOf24 (e : Addr) (w : World) : (ReflectliteValue.unpack (.iface 24 (.pointer (some e)))).run Tryd.prog w
    = .ok (.agg #[.pointer (some ⟨1, 24, none⟩), .pointer (some ⟨w.heap.size, 0, none⟩), .int .u64 150]) (w.alloc (.cells #[.pointer (some e)] 24)) := by kernel_rfl

theorem elemOf31 (w : World) : (Rtype.elem? 31).run Tryd.prog w = .ok (some 24) w := by kernel_rfl
theorem mk24 (p : Addr) (w : World) : (ReflectliteValue.mk 24 p ReflectliteValue.flagAddr).run Tryd.prog w = .ok (.agg #[.pointer (some ⟨1, 24, none⟩), .pointer (some p), .int .u64 406]) w := by kernel_rfl
/-- (Value).Elem at the Value of a **p.E that is not nil: the Value of the *p.E variable that it points to, addressable. -/
theorem elemV31 (a p : Addr) (W : World) (ha : W.cell? a = some (.pointer (some p))) :
    (ReflectliteValue.method (ReflectliteValue.valueError "reflectlite.Value.Elem" 0) ReflectliteValue.elem #[.agg #[.pointer (some ⟨1, 31, none⟩), .pointer (some a), .int .u64 150]]).run Tryd.prog W
      = .ok (.agg #[.pointer (some ⟨1, 24, none⟩), .pointer (some p), .int .u64 406]) W := by
  obtain ⟨K, hK, hs⟩ := rlm (ReflectliteValue.valueError "reflectlite.Value.Elem" 0) ReflectliteValue.elem (.agg #[.pointer (some ⟨1, 31, none⟩), .pointer (some a), .int .u64 150])
  rw [hK]
  simp only [Sem.run_bind, parts31, Result.andThen, hs]
  simp [ReflectliteValue.elem, loadVar, isAgg, underlying, Tryd.underlying31, ha, Result.andThen, elemOf31, mk24]
theorem parts24a (a : Addr) (w : World) : (ReflectliteValue.parts (.agg #[.pointer (some ⟨1, 24, none⟩), .pointer (some a), .int .u64 406])).run Tryd.prog w = .ok (some (24, a, 406)) w := by kernel_rfl
theorem parts24 (a : Addr) (w : World) : (ReflectliteValue.parts (.agg #[.pointer (some ⟨1, 24, none⟩), .pointer (some a), .int .u64 150])).run Tryd.prog w = .ok (some (24, a, 150)) w := by kernel_rfl
theorem direct24 (w : World) : (Rtype.directlyAssignable 24 24).run Tryd.prog w = .ok true w := by kernel_rfl
theorem size24 (w : World) : (sizeOf 24).run Tryd.prog w = .ok 1 w := by kernel_rfl
/-- (Value).Set: the *p.E variable at 'ta' gets what the Value's own variable 'b' holds. -/
theorem set24 (ta b e : Addr) (old : Value) (W : World) (hb : W.cell? b = some (.pointer (some e))) (ht : W.cell? ta = some old) (hf : W.frozen? ta = false) :
    (ReflectliteValue.set #[.agg #[.pointer (some ⟨1, 24, none⟩), .pointer (some ta), .int .u64 406], .agg #[.pointer (some ⟨1, 24, none⟩), .pointer (some b), .int .u64 150]]).run Tryd.prog W
      = .ok (.tuple #[]) (W.setCell ta (.pointer (some e))) := by
  obtain ⟨K, hK, hs⟩ : ∃ K : Option (TypeId × Addr × Nat) → Option (TypeId × Addr × Nat) → Sem Value,
      ReflectliteValue.set #[.agg #[.pointer (some ⟨1, 24, none⟩), .pointer (some ta), .int .u64 406], .agg #[.pointer (some ⟨1, 24, none⟩), .pointer (some b), .int .u64 150]] =
        (ReflectliteValue.parts (.agg #[.pointer (some ⟨1, 24, none⟩), .pointer (some ta), .int .u64 406]) >>= fun p => ReflectliteValue.parts (.agg #[.pointer (some ⟨1, 24, none⟩), .pointer (some b), .int .u64 150]) >>= fun q => K p q) ∧
      (K (some (24, ta, 406)) (some (24, b, 150))).run Tryd.prog W = .ok (.tuple #[]) (W.setCell ta (.pointer (some e))) := by
    refine ⟨_, rfl, ?_⟩
    simp [ReflectliteValue.flagAddr, loadVar, isAgg, underlying, Tryd.underlying24, hb, Result.andThen, direct24, storeVar, Value.cells, storeCells, Addr.add]
    rw [run_store Tryd.prog W ta _ _ (by rfl)]
    simp [ht, hf]
  rw [hK]
  simp only [Sem.run_bind, parts24a, parts24, Result.andThen, hs]

set_option maxHeartbeats 4000000 in
theorem as_hit (e t : Addr) (old : Value) (w : World) (hg : w.cell? ⟨0, 0, none⟩ = some (.iface 46 (.agg #[.pointer (some ⟨1, 27, none⟩)]))) (ht0 : w.cell? t = some old) (hf0 : w.frozen? t = false) :
    Calls Tryd.prog 6 #[.iface 24 (.pointer (some e)), .iface 31 (.pointer (some t))] w fun ev w' => ev = .returned (.bool true) ∧ w' = ((((w.alloc (.cells #[.pointer (some t)] 31)).alloc (.cells #[.pointer (some ⟨1, 31, none⟩), .pointer (some ⟨w.heap.size, 0, none⟩), .int .u64 150] 35)).alloc (.cells #[.pointer (some ⟨1, 31, none⟩), .pointer (some ⟨w.heap.size, 0, none⟩), .int .u64 150] 35)).alloc (.cells #[.pointer (some e)] 24)).setCell t (.pointer (some e)) := by
  have h6 := @run_callFunc_extern Tryd.prog 7 _ (fun args => ReflectliteValue.unpack (args.getD 0 (.tuple #[]))) Tryd.func7 (by kernel_rfl) (by kernel_rfl) (by kernel_rfl) (by kernel_rfl)
  have h7 := @run_callFunc_extern Tryd.prog 8 _ (ReflectliteValue.methodAny (ReflectliteValue.valueError "reflectlite.Value.Type" 0) (fun t _ _ _ => ReflectliteType.toType t)) Tryd.func8 (by kernel_rfl) (by kernel_rfl) (by kernel_rfl) (by kernel_rfl)
  have h8 := @run_callFunc_extern Tryd.prog 9 _ (ReflectliteValue.method (ReflectliteValue.valueError "reflectlite.Value.IsNil" 0) ReflectliteValue.isNil) Tryd.func9 (by kernel_rfl) (by kernel_rfl) (by kernel_rfl) (by kernel_rfl)
  have h27 := @run_callFunc_extern Tryd.prog 28 _ (ReflectliteType.abiMethod fun t => do pure (.int .u8 (← Rtype.kind t))) Tryd.func28 (by kernel_rfl) (by kernel_rfl) (by kernel_rfl) (by kernel_rfl)
  have h37 := @run_callFunc_extern Tryd.prog 38 _ (ReflectliteType.method ReflectliteType.elem) Tryd.func38 (by kernel_rfl) (by kernel_rfl) (by kernel_rfl) (by kernel_rfl)
  have h38 := @run_callFunc_extern Tryd.prog 39 _ (ReflectliteType.relation "Implements" ReflectliteType.implements_) Tryd.func39 (by kernel_rfl) (by kernel_rfl) (by kernel_rfl) (by kernel_rfl)
  have h10 := @run_callFunc_extern Tryd.prog 11 _ ReflectliteType.typeOf Tryd.func11 (by kernel_rfl) (by kernel_rfl) (by kernel_rfl) (by kernel_rfl)
  have h35 := @run_callFunc_extern Tryd.prog 36 _ (ReflectliteType.relation "AssignableTo" ReflectliteType.assignableTo) Tryd.func36 (by kernel_rfl) (by kernel_rfl) (by kernel_rfl) (by kernel_rfl)
  have h11 := @run_callFunc_extern Tryd.prog 12 _ (ReflectliteValue.method (ReflectliteValue.valueError "reflectlite.Value.Elem" 0) ReflectliteValue.elem) Tryd.func12 (by kernel_rfl) (by kernel_rfl) (by kernel_rfl) (by kernel_rfl)
  have h12 := @run_callFunc_extern Tryd.prog 13 _ ReflectliteValue.set Tryd.func13 (by kernel_rfl) (by kernel_rfl) (by kernel_rfl) (by kernel_rfl)
  have tO := typeOf24
  have mA := methodAssignableTo
  have a25 := assignable24
  have v25 := valueOf24
  have f6 := valueOf31
  have f7 := type31
  have mK := methodKind
  have mE := methodElem
  have mI := methodImplements
  have k27 := kind31
  have k25 := kind24
  have e27 := elem31
  have i25 := implements24
  have n8 := isNil31 ⟨w.heap.size, 0, none⟩ t ((w.alloc (.cells #[.pointer (some t)] 31)).alloc (.cells #[.pointer (some ⟨1, 31, none⟩), .pointer (some ⟨w.heap.size, 0, none⟩), .int .u64 150] 35)) (by simp)
  have hlt : 0 < w.heap.size := by
    rcases Nat.eq_zero_or_pos w.heap.size with h0 | h
    · simp [World.cell?, h0] at hg
    · exact h
  have hg2 : ((w.alloc (.cells #[.pointer (some t)] 31)).alloc (.cells #[.pointer (some ⟨1, 31, none⟩), .pointer (some ⟨w.heap.size, 0, none⟩), .int .u64 150] 35)).cell? ⟨0, 0, none⟩ = some (.iface 46 (.agg #[.pointer (some ⟨1, 27, none⟩)])) := by
    rw [World.cell?_alloc_lt _ _ ⟨0, 0, none⟩ (by simp), World.cell?_alloc_lt _ _ ⟨0, 0, none⟩ hlt]; exact hg
  have htl : t.block < w.heap.size := by
    rcases Nat.lt_or_ge t.block w.heap.size with h | h
    · exact h
    · simp [World.cell?, Array.getElem?_eq_none h] at ht0
  have el := elemV31 ⟨w.heap.size, 0, none⟩ t (((w.alloc (.cells #[.pointer (some t)] 31)).alloc (.cells #[.pointer (some ⟨1, 31, none⟩), .pointer (some ⟨w.heap.size, 0, none⟩), .int .u64 150] 35)).alloc (.cells #[.pointer (some ⟨1, 31, none⟩), .pointer (some ⟨w.heap.size, 0, none⟩), .int .u64 150] 35)) (by rw [World.cell?_alloc_lt _ _ ⟨w.heap.size, 0, none⟩ (by simp; omega)]; simp)
  have st := set24 t ⟨w.heap.size + 1 + 1 + 1, 0, none⟩ e old ((((w.alloc (.cells #[.pointer (some t)] 31)).alloc (.cells #[.pointer (some ⟨1, 31, none⟩), .pointer (some ⟨w.heap.size, 0, none⟩), .int .u64 150] 35)).alloc (.cells #[.pointer (some ⟨1, 31, none⟩), .pointer (some ⟨w.heap.size, 0, none⟩), .int .u64 150] 35)).alloc (.cells #[.pointer (some e)] 24))
    (by rw [World.cell?_alloc_at _ _ _ _ (by simp)]; rfl)
    (by rw [World.cell?_alloc_lt _ _ t (by simp; omega), World.cell?_alloc_lt _ _ t (by simp; omega), World.cell?_alloc_lt _ _ t (by simp; omega), World.cell?_alloc_lt _ _ t htl]; exact ht0)
    (by rw [World.frozen?_alloc_old _ _ t (by simp; omega), World.frozen?_alloc_old _ _ t (by simp; omega), World.frozen?_alloc_old _ _ t (by simp; omega), World.frozen?_alloc_old _ _ t (Nat.ne_of_lt htl)]; exact hf0)
  go_enter Tryd.func6, Tryd.ntmps6
  go_wp2
  refine wp_loop_rounds 1 ?_
  rw [rounds_succ]
  go_wp2
  go_ret
  exact ⟨rfl, rfl⟩
end Go.Proofs.Qxb6615621aDoor.As
