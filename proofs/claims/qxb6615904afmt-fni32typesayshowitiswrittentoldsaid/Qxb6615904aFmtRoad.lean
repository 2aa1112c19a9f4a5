/-
  Contracts of the functions on the road of FnI32TypeSaysHowItIsWritten.
-/
import Derived.Test.Qxb6615904aFmtRows
import Derived.WalkKit
import Derived.WalkSpells
import Derived.WalkLawsBesides
import Derived.Below
import Derived.Deep.QuietTactic
import Derived.BigQuiet
import Derived.RegionTactic
import Derived.BigRegion
import Derived.Laws.BitsAllLaws
namespace Go.Proofs.Qxb6615904aFmt.Road
open Go.RowKit
set_option linter.unusedVariables false
set_option maxRecDepth 100000

theorem info5 : (Tryf.prog.info? 5).map (fun i => (i.zero, i.size, i.bytes)) = some (some (.int .u8 0), 1, 1) := by kernel_rfl

/-- The cells of a literal list, in a block that has just been laid. -/
theorem news_at (w : World) (cs : List Value) (T : TypeId) (b : Nat) (hb : b = w.heap.size) : ∀ j u, cs[j]? = some u → (w.alloc (.cells cs.toArray T)).cell? ((⟨b, 0, none⟩ : Addr).add j) = some u := by
  intro j u hj
  subst hb
  rw [Addr.add_lit, Nat.zero_add, cell_of_row _ _ _ cs.toArray T (0, 0) (heap_alloc_new w _)]
  simpa using hj

theorem ints_one (cs : List Int) : ∀ u ∈ cs.map (Value.int .u8), u.oneCell' = true := ints_oneCell _ _

set_option maxHeartbeats 400000 in
theorem au16 (v : Value) (n : Nat) (xs : List Value) (u : Int) (w : World) (B : Nat) (hB : B ≤ w.heap.size) (hown : w.ownsRow B 5 1 v n xs) (hn : n ≤ 1000) (h0 : 0 ≤ u) (h1 : u ≤ 65535) :
    Calls Tryf.prog 26 #[.agg #[], v, .int .u16 u] w fun e w' => ∃ v', e = .returned v' ∧ w'.ownsRow B 5 1 v' (n + 2) (xs ++ [.int .u8 (u / 256), .int .u8 (u % 256)]) ∧ Below B w w' ∧ w.heap.size ≤ w'.heap.size := by
  obtain ⟨i0, hi, hz0, hz1, hz2⟩ := info_parts info5
  have hlt := hown.lt
  go_enter Tryf.func26, Tryf.ntmps26
  go_wp2_with (at_builtin; refine wpList_append_own _ rfl _ _ 22 rfl B 5 i0 (.int .u8 0) 1 1 Tryf.underlying22 hi hz0 hz1 hz2 rfl (by decide) v n xs rfl ((hown.alloc _).alloc _) ⟨w.heap.size + 1, 0, none⟩ 2 2 [.int .u8 (u / 256), .int .u8 (u % 256)] rfl rfl ?c1 ?c2 ?c3 ?c4 ?c5 ?_)
  case c1 => exact news_at _ [_, _] 5 _ (by simp)
  case c2 => exact ints_one [_, _]
  case c3 => unfold maxLen; omega
  case c4 => omega
  case c5 => simp; omega
  intro v' w1 hown' hgrow _
  have hb : Below B w w1 := (((Below.refl B w).alloc hB _).alloc (by simp; omega) _).grown hgrow (by simp; omega) (fun k hk => (hlt k hk).1)
  go_wp2
  go_ret
  exact ⟨_, rfl, hown', hb, hb.size⟩

set_option maxHeartbeats 400000 in
theorem au32 (v : Value) (n : Nat) (xs : List Value) (u : Int) (w : World) (B : Nat) (hB : B ≤ w.heap.size) (hown : w.ownsRow B 5 1 v n xs) (hn : n ≤ 1000) (h0 : 0 ≤ u) (h1 : u ≤ 4294967295) :
    Calls Tryf.prog 29 #[.agg #[], v, .int .u32 u] w fun e w' => ∃ v', e = .returned v' ∧ w'.ownsRow B 5 1 v' (n + 4) (xs ++ [.int .u8 (u / 16777216), .int .u8 (u / 65536 % 256), .int .u8 (u / 256 % 256), .int .u8 (u % 256)]) ∧ Below B w w' ∧ w.heap.size ≤ w'.heap.size := by
  obtain ⟨i0, hi, hz0, hz1, hz2⟩ := info_parts info5
  have hlt := hown.lt
  go_enter Tryf.func29, Tryf.ntmps29
  go_wp2_with (at_builtin; (refine wpList_append_own _ rfl _ _ 22 rfl B 5 i0 (.int .u8 0) 1 1 Tryf.underlying22 hi hz0 hz1 hz2 rfl (by decide) v n xs rfl ((hown.alloc _).alloc _) ⟨w.heap.size + 1, 0, none⟩ 4 4 [.int .u8 (u / 16777216), .int .u8 (u / 65536 % 256), .int .u8 (u / 256 % 256), .int .u8 (u % 256)] rfl rfl ?c1 ?c2 ?c3 ?c4 ?c5 ?_))
  case c1 => exact news_at _ [_, _, _, _] 5 _ (by simp)
  case c2 => exact ints_one [_, _, _, _]
  case c3 => unfold maxLen; omega
  case c4 => omega
  case c5 => simp; omega
  intro v' w1 hown' hgrow _
  have hb : Below B w w1 := (((Below.refl B w).alloc hB _).alloc (by simp; omega) _).grown hgrow (by simp; omega) (fun k hk => (hlt k hk).1)
  go_wp2
  go_ret
  exact ⟨_, rfl, hown', hb, hb.size⟩

theorem minSize18 (w : World) (hc : w.cell? ⟨0, 17, none⟩ = some (.int .i64 4)) : Calls Tryf.prog 18 #[.int .u8 8] w fun e w' => e = .returned (.int .i64 4) ∧ w = w' := by
  go_enter Tryf.func18, Tryf.ntmps18
  go_wp2
  go_ret
  exact ⟨rfl, rfl⟩

theorem minSize13 (w : World) (hc : w.cell? ⟨0, 17, none⟩ = some (.int .i64 4)) : Calls Tryf.prog 13 #[.int .u8 8] w fun e w' => e = .returned (.int .i64 4) ∧ w = w' := by
  go_enter Tryf.func13, Tryf.ntmps13
  go_wp2_with (go_at_call 18; refine (minSize18 _ hc).mono ?_; rintro e w' ⟨rfl, rfl⟩)
  go_ret
  exact ⟨rfl, rfl⟩

theorem valid19 (w : World) (hc : w.cell? ⟨0, 16, none⟩ = some (.string ⟨#[105, 51, 50]⟩)) : Calls Tryf.prog 19 #[.int .u8 8] w fun e w' => e = .returned (.bool true) ∧ w = w' := by
  go_enter Tryf.func19, Tryf.ntmps19
  go_wp2
  go_ret
  exact ⟨rfl, rfl⟩

theorem string14 (w : World) (hc : w.cell? ⟨0, 16, none⟩ = some (.string ⟨#[105, 51, 50]⟩)) : Calls Tryf.prog 14 #[.int .u8 8] w fun e w' => e = .returned (.string ⟨#[105, 51, 50]⟩) ∧ w = w' := by
  go_enter Tryf.func14, Tryf.ntmps14
  go_wp2_with (go_at_call 19; refine (valid19 _ hc).mono ?_; rintro e w' ⟨rfl, rfl⟩)
  go_ret
  exact ⟨rfl, rfl⟩

theorem checkDepth30 (w : World) (d : Int) : Calls Tryf.prog 30 #[.int .u8 8, .int .i64 d] w fun e w' => e = .returned .nilIface ∧ w = w' := by
  go_enter Tryf.func30, Tryf.ntmps30
  go_wp2
  go_ret
  exact ⟨rfl, rfl⟩

theorem checkField25 (w : World) (id x : Int) : Calls Tryf.prog 25 #[.agg #[.int .i16 id, .iface 35 (.int .i32 x)]] w fun e w' => e = .returned .nilIface ∧ w' = w.alloc (.cells #[.int .i16 id, .iface 35 (.int .i32 x)] 65) := by
  go_enter Tryf.func25, Tryf.ntmps25
  go_wp2
  go_ret
  exact ⟨rfl, rfl⟩

theorem ret_int {k : IntKind} {a b : Int} (h : a = b) : Ending.returned (.int k a) = .returned (.int k b) := by rw [h]
theorem pow24 : 16777216 = 2 ^ 24 := by kernel_rfl
theorem pow16 : 65536 = 2 ^ 16 := by kernel_rfl
theorem pow8 : 256 = 2 ^ 8 := by kernel_rfl

theorem or_low (a b i m : Nat) (hm : m = 2 ^ i) (h : b < m) : (a * m) ||| b = a * m + b := by
  subst hm
  rw [← Nat.shiftLeft_eq, Nat.shiftLeft_add_eq_or_of_lt h]

theorem step1 (a b : Nat) : a * 16777216 + b * 65536 = (a * 256 + b) * 65536 := by
  rw [Nat.add_mul, Nat.mul_assoc]
theorem step2 (t c : Nat) : t * 65536 + c * 256 = (t * 256 + c) * 256 := by
  rw [Nat.add_mul, Nat.mul_assoc]

theorem be32 (x0 x1 x2 x3 : Int) (a0 : 0 ≤ x0) (b0 : x0 ≤ 255) (a1 : 0 ≤ x1) (b1 : x1 ≤ 255) (a2 : 0 ≤ x2) (b2 : x2 ≤ 255) (a3 : 0 ≤ x3) (b3 : x3 ≤ 255) :
    bits BinOp.or IntKind.u32 (bits BinOp.or IntKind.u32 (bits BinOp.or IntKind.u32 (x0 * 16777216) (x1 * 65536)) (x2 * 256)) x3 = x0 * 16777216 + x1 * 65536 + x2 * 256 + x3 := by
  obtain ⟨n0, rfl⟩ := Int.eq_ofNat_of_zero_le a0
  obtain ⟨n1, rfl⟩ := Int.eq_ofNat_of_zero_le a1
  obtain ⟨n2, rfl⟩ := Int.eq_ofNat_of_zero_le a2
  obtain ⟨n3, rfl⟩ := Int.eq_ofNat_of_zero_le a3
  have e2 : ((n2 : Int) * 256) = ((n2 * 256 : Nat) : Int) := by omega
  have e1 : ((n1 : Int) * 65536) = ((n1 * 65536 : Nat) : Int) := by omega
  have e0 : ((n0 : Int) * 16777216) = ((n0 * 16777216 : Nat) : Int) := by omega
  rw [e2, e1, e0, u32_or_nat (n0 * 16777216) (n1 * 65536) (by omega) (by omega), or_low n0 (n1 * 65536) 24 16777216 pow24 (by omega), step1 n0 n1,
    u32_or_nat _ (n2 * 256) (by omega) (by omega), or_low _ (n2 * 256) 16 65536 pow16 (by omega), step2 (n0 * 256 + n1) n2, u32_or_nat _ n3 (by omega) (by omega), or_low _ n3 8 256 pow8 (by omega)]
  omega

set_option maxHeartbeats 400000 in
theorem get32 (g c : Nat) (b3 b4 b5 b6 : Int) (w : World) (h3 : w.cell? ⟨g, 3, none⟩ = some (.int .u8 b3)) (h4 : w.cell? ⟨g, 4, none⟩ = some (.int .u8 b4)) (h5 : w.cell? ⟨g, 5, none⟩ = some (.int .u8 b5)) (h6 : w.cell? ⟨g, 6, none⟩ = some (.int .u8 b6)) 
    (r3 : 0 ≤ b3 ∧ b3 ≤ 255) (r4 : 0 ≤ b4 ∧ b4 ≤ 255) (r5 : 0 ≤ b5 ∧ b5 ≤ 255) (r6 : 0 ≤ b6 ∧ b6 ≤ 255) :
    Calls Tryf.prog 10 #[.slice (some ⟨g, 0, none⟩) 8 c, .int .i64 3] w fun e w' => e = .returned (.int .u32 (b3 * 16777216 + b4 * 65536 + b5 * 256 + b6)) ∧ ∃ n, w' = w.drewN n := by
  obtain ⟨r31, r32⟩ := r3
  obtain ⟨r41, r42⟩ := r4
  obtain ⟨r51, r52⟩ := r5
  obtain ⟨r61, r62⟩ := r6
  go_enter Tryf.func10, Tryf.ntmps10
  go_wp2
  go_quiet (fail)
  go_wp2
  go_ret
  exact ⟨ret_int (be32 b3 b4 b5 b6 r31 r32 r41 r42 r51 r52 r61 r62), _, rfl⟩

theorem methType (x : Int) (w : World) : (method 241 35 (.int .i32 x) "Type").run Tryf.prog w = .ok (11, .int .i32 x) w := by kernel_rfl

theorem i32Type11 (x : Int) (w : World) : Calls Tryf.prog 11 #[.int .i32 x] w fun e w' => e = .returned (.int .u8 8) ∧ w = w' := by
  go_enter Tryf.func11, Tryf.ntmps11
  go_wp2
  go_ret
  exact ⟨rfl, rfl⟩

theorem asBool (x : Int) (w : World) : (Instr.typeAssert (.iface 35 (.int .i32 x)) 47 73 true).run Tryf.prog w = .ok (.tuple #[.bool false, .bool false]) w := by kernel_rfl
theorem asI8 (x : Int) (w : World) : (Instr.typeAssert (.iface 35 (.int .i32 x)) 47 75 true).run Tryf.prog w = .ok (.tuple #[.int .i8 0, .bool false]) w := by kernel_rfl
theorem asI16 (x : Int) (w : World) : (Instr.typeAssert (.iface 35 (.int .i32 x)) 47 76 true).run Tryf.prog w = .ok (.tuple #[.int .i16 0, .bool false]) w := by kernel_rfl
theorem asI32 (x : Int) (w : World) : (Instr.typeAssert (.iface 35 (.int .i32 x)) 47 35 true).run Tryf.prog w = .ok (.tuple #[.int .i32 x, .bool true]) w := by kernel_rfl

def be4 (u : Int) : List Value := [.int .u8 (u / 16777216), .int .u8 (u / 65536 % 256), .int .u8 (u / 256 % 256), .int .u8 (u % 256)]

set_option maxHeartbeats 400000 in
theorem appendBinary24 (v : Value) (n : Nat) (xs : List Value) (x : Int) (w : World) (B : Nat) (hB : B ≤ w.heap.size) (hown : w.ownsRow B 5 1 v n xs) (hn : n ≤ 1000) (h0 : -2147483648 ≤ x) (h1 : x ≤ 2147483647) :
    Calls Tryf.prog 24 #[v, .iface 35 (.int .i32 x), .int .i64 2] w fun e w' => ∃ v', e = .returned (.tuple #[v', .nilIface]) ∧ w'.ownsRow B 5 1 v' (n + 4) (xs ++ be4 (x % 4294967296)) ∧ Below B w w' ∧ w.heap.size ≤ w'.heap.size := by
  have hm := methType x
  have a1 := asBool x
  have a2 := asI8 x
  have a3 := asI16 x
  have a4 := asI32 x
  go_enter Tryf.func24, Tryf.ntmps24
  go_wp2_with (first | (go_at_call 11; refine (i32Type11 _ _).mono ?_; rintro e w' ⟨rfl, rfl⟩) | (go_at_call 30; refine (checkDepth30 _ _).mono ?_; rintro e w' ⟨rfl, rfl⟩))
  refine (au32 v n xs (x % 4294967296) w B hB hown hn (by omega) (by omega)).mono ?_
  rintro e w' ⟨v', rfl, hown', hb, hs⟩
  go_wp2
  go_ret2
  exact ⟨_, rfl, hown', hb, hs⟩

theorem make61 (w : World) : (Instr.makeSlice 61 (.int .i64 1) (.int .i64 1)).run Tryf.prog w = .ok (.slice (some ⟨w.heap.size, 0, none⟩) 1 1) (w.alloc (.cells #[.int .i16 0, .nilIface] 65)) := by kernel_rfl

theorem zero65 (w : World) : (zeroValue 65).run Tryf.prog w = .ok (.agg #[.int .i16 0, .nilIface]) w := by kernel_rfl

set_option maxHeartbeats 400000 in
theorem i32Struct17 (g1 g2 : Nat) (id x : Int) (w : World) (hc1 : w.cell? ⟨g1, 0, none⟩ = some (.int .i16 id)) (hc2 : w.cell? ⟨g2, 0, none⟩ = some (.int .i32 x)) (l1 : g1 < w.heap.size) (l2 : g2 < w.heap.size) :
    Calls Tryf.prog 17 #[.slice (some ⟨g1, 0, none⟩) 1 1, .slice (some ⟨g2, 0, none⟩) 1 1] w fun e w' => ∃ S F, e = .returned (.pointer (some ⟨S, 0, none⟩)) ∧
      w'.cell? ⟨S, 0, none⟩ = some (.slice (some ⟨F, 0, none⟩) 1 1) ∧ w'.cell? ⟨F, 0, none⟩ = some (.int .i16 id) ∧ w'.cell? ⟨F, 1, none⟩ = some (.iface 35 (.int .i32 x)) ∧ Below w.heap.size w w' := by
  have hmk := make61
  go_enter Tryf.func17, Tryf.ntmps17
  go_wp2
  refine wp_loop_rounds 2 ?_
  rw [rounds_succ]
  go_wp2
  have q1 : ((w.alloc (.cells #[.int .i16 0, .nilIface] 65)).alloc (.cells #[.slice (some ⟨w.heap.size, 0, none⟩) 1 1] 63)).cell? ⟨g1, 0, none⟩ = some (.int .i16 id) := cell_later (((Below.refl _ w).alloc (Nat.le_refl _) _).alloc (by simp) _) hc1
  have q2 : ((w.alloc (.cells #[.int .i16 0, .nilIface] 65)).alloc (.cells #[.slice (some ⟨w.heap.size, 0, none⟩) 1 1] 63)).cell? ⟨g2, 0, none⟩ = some (.int .i32 x) := cell_later (((Below.refl _ w).alloc (Nat.le_refl _) _).alloc (by simp) _) hc2
  have q3 : ((w.alloc (.cells #[.int .i16 0, .nilIface] 65)).alloc (.cells #[.slice (some ⟨w.heap.size, 0, none⟩) 1 1] 63)).cell? ⟨w.heap.size + 1, 0, none⟩ = some (.slice (some ⟨w.heap.size, 0, none⟩) 1 1) := by simp
  have q4 : ((w.alloc (.cells #[.int .i16 0, .nilIface] 65)).alloc (.cells #[.slice (some ⟨w.heap.size, 0, none⟩) 1 1] 63)).cell? ⟨w.heap.size, 0, none⟩ = some (.int .i16 0) := by simp
  have q5 : ((w.alloc (.cells #[.int .i16 0, .nilIface] 65)).alloc (.cells #[.slice (some ⟨w.heap.size, 0, none⟩) 1 1] 63)).cell? ⟨w.heap.size, 1, none⟩ = some .nilIface := by simp
  have q6 : ((w.alloc (.cells #[.int .i16 0, .nilIface] 65)).alloc (.cells #[.slice (some ⟨w.heap.size, 0, none⟩) 1 1] 63)).frozen? ⟨w.heap.size, 0, none⟩ = false := by simp
  have q7 : ((w.alloc (.cells #[.int .i16 0, .nilIface] 65)).alloc (.cells #[.slice (some ⟨w.heap.size, 0, none⟩) 1 1] 63)).frozen? ⟨w.heap.size, 1, none⟩ = false := by simp
  have hb : Below w.heap.size w ((w.alloc (.cells #[.int .i16 0, .nilIface] 65)).alloc (.cells #[.slice (some ⟨w.heap.size, 0, none⟩) 1 1] 63)) := (((Below.refl _ w).alloc (Nat.le_refl _) _).alloc (by simp) _)
  generalize ((w.alloc (.cells #[.int .i16 0, .nilIface] 65)).alloc (.cells #[.slice (some ⟨w.heap.size, 0, none⟩) 1 1] 63)) = W at q1 q2 q3 q4 q5 q6 q7 hb ⊢
  clear hmk hc1 hc2
  go_region
  go_wp2
  rw [rounds_succ]
  go_wp2
  go_ret
  refine ⟨w.heap.size + 1, w.heap.size, rfl, ?_, ?_, ?_, ((hb.setCell (Nat.le_refl _) _).setCell (Nat.le_refl _) _).drew⟩
  · show ((W.setCell _ _).setCell _ _).cell? _ = _
    go_simp
  · show ((W.setCell _ _).setCell _ _).cell? _ = _
    go_simp
  · show ((W.setCell _ _).setCell _ _).cell? _ = _
    go_simp

theorem own_mono {w : World} {B B' : Nat} {e : TypeId} {size : Nat} {v : Value} {n : Nat} {xs : List Value} (hB : B' ≤ B) (h : w.ownsRow B e size v n xs) : w.ownsRow B' e size v n xs := by
  obtain ⟨h1, h2⟩ := h
  refine ⟨h1, ?_⟩
  rcases h2 with h2 | ⟨g, cap, cur, hv, hg, r⟩
  · exact .inl h2
  · exact .inr ⟨g, cap, cur, hv, Nat.le_trans hB hg, r⟩

set_option maxHeartbeats 400000 in
theorem appendStruct16 (S F : Nat) (id x : Int) (w : World) (hS : w.cell? ⟨S, 0, none⟩ = some (.slice (some ⟨F, 0, none⟩) 1 1)) (hF0 : w.cell? ⟨F, 0, none⟩ = some (.int .i16 id)) (hF1 : w.cell? ⟨F, 1, none⟩ = some (.iface 35 (.int .i32 x)))
    (i0 : -32768 ≤ id) (i1 : id ≤ 32767) (x0 : -2147483648 ≤ x) (x1 : x ≤ 2147483647) :
    Calls Tryf.prog 16 #[.slice none 0 0, .pointer (some ⟨S, 0, none⟩), .int .i64 1] w fun e w' => ∃ v', e = .returned (.tuple #[v', .nilIface]) ∧
      w'.ownsRow w.heap.size 5 1 v' 8 ([.int .u8 8, .int .u8 (id % 65536 / 256), .int .u8 (id % 65536 % 256)] ++ be4 (x % 4294967296) ++ [.int .u8 0]) ∧ Below w.heap.size w w' := by
  have hm := methType x
  have hz := zero65
  have lS := World.block_lt_of_cell? w _ hS
  have lF := World.block_lt_of_cell? w _ hF0
  go_enter Tryf.func16, Tryf.ntmps16
  go_wp2
  refine wp_loop_rounds 2 ?_
  rw [rounds_succ]
  go_wp2_with fail
  refine (checkField25 _ id x).mono ?_
  rintro e w' ⟨rfl, rfl⟩
  have f0 : ((w.alloc (.cells #[.int .i16 id, .iface 35 (.int .i32 x)] 65)).alloc (.cells #[.int .i16 id, .iface 35 (.int .i32 x)] 65)).cell? ⟨w.heap.size, 0, none⟩ = some (.int .i16 id) := by simp
  have f1 : ((w.alloc (.cells #[.int .i16 id, .iface 35 (.int .i32 x)] 65)).alloc (.cells #[.int .i16 id, .iface 35 (.int .i32 x)] 65)).cell? ⟨w.heap.size, 1, none⟩ = some (.iface 35 (.int .i32 x)) := by simp
  have fs : ((w.alloc (.cells #[.int .i16 id, .iface 35 (.int .i32 x)] 65)).alloc (.cells #[.int .i16 id, .iface 35 (.int .i32 x)] 65)).heap.size = w.heap.size + 2 := by simp
  have fb : Below w.heap.size w ((w.alloc (.cells #[.int .i16 id, .iface 35 (.int .i32 x)] 65)).alloc (.cells #[.int .i16 id, .iface 35 (.int .i32 x)] 65)) := ((Below.refl _ w).alloc (Nat.le_refl _) _).alloc (by simp) _
  generalize ((w.alloc (.cells #[.int .i16 id, .iface 35 (.int .i32 x)] 65)).alloc (.cells #[.int .i16 id, .iface 35 (.int .i32 x)] 65)) = W2 at f0 f1 fs fb ⊢
  have FS : Hid (W2.heap.size = w.heap.size + 2) := fs
  clear fs hS hF0 hF1 lS lF hz
  obtain ⟨i5, hi, hz0, hz1, hz2⟩ := info_parts info5
  have nil0 : W2.ownsRow W2.heap.size 5 1 (.slice none 0 0) 0 [] := World.ownsRow_nil _ _ _ _
  go_wp2_with (first | (go_at_call 11; refine (i32Type11 _ _).mono ?_; rintro e w' ⟨rfl, rfl⟩) | (at_builtin; refine wpList_append_own _ rfl (.tmp 26) (.tmp 30) 22 rfl W2.heap.size 5 i5 (.int .u8 0) 1 1 Tryf.underlying22 hi hz0 hz1 hz2 rfl (by decide) (.slice none 0 0) 0 [] rfl (nil0.alloc _) ⟨W2.heap.size, 0, none⟩ 1 1 [.int .u8 8] rfl rfl ?c1 ?c2 ?c3 ?c4 ?c5 ?_))
  case c1 => exact news_at _ [_] 5 _ (by simp)
  case c2 => exact ints_one [_]
  case c3 => unfold maxLen; omega
  case c4 => omega
  case c5 => simp
  intro v1 w3 hown3 hgrow3 _
  have b3 : Below W2.heap.size W2 w3 := ((Below.refl _ W2).alloc (Nat.le_refl _) _).grown hgrow3 (by simp) (fun k hk => by cases hk)
  have g0 : w3.cell? ⟨w.heap.size, 0, none⟩ = some (.int .i16 id) := cell_later b3 f0
  have g1 : w3.cell? ⟨w.heap.size, 1, none⟩ = some (.iface 35 (.int .i32 x)) := cell_later b3 f1
  clear hgrow3 nil0
  have hsz3 : W2.heap.size ≤ w3.heap.size := b3.size
  go_wp2_with fail
  refine (au16 v1 1 [.int .u8 8] (id % 65536) w3 W2.heap.size hsz3 hown3 (by omega) (by omega) (by omega)).mono ?_
  rintro e w4 ⟨v4, rfl, hown4, b4, hsz4⟩
  have k1 : w4.cell? ⟨w.heap.size, 1, none⟩ = some (.iface 35 (.int .i32 x)) := by
    rw [b4.cell (p := ⟨w.heap.size, 1, none⟩) (by show w.heap.size < W2.heap.size; rw [FS.out]; omega)]; exact g1
  clear g0 g1 f0 f1 hown3
  go_wp2_with fail
  refine (appendBinary24 v4 3 _ x w4 W2.heap.size (Nat.le_trans hsz3 hsz4) hown4 (by omega) x0 x1).mono ?_
  rintro e w5 ⟨v5, rfl, hown5, b5, hsz5⟩
  have B5 : Below W2.heap.size W2 w5 := (b3.trans b4).trans b5
  have hlt5 := hown5.lt
  clear k1 hown4 b3 b4 b5
  go_wp2
  rw [rounds_succ]
  go_wp2_with (at_builtin; refine wpList_append_own _ rfl (.tmp 51) (.tmp 52) 22 rfl W2.heap.size 5 i5 (.int .u8 0) 1 1 Tryf.underlying22 hi hz0 hz1 hz2 rfl (by decide) v5 7 _ rfl (hown5.alloc _) ⟨w5.heap.size, 0, none⟩ 1 1 [.int .u8 0] rfl rfl ?d1 ?d2 ?d3 ?d4 ?d5 ?_)
  case d1 => exact news_at _ [_] 5 _ (by simp)
  case d2 => exact ints_one [_]
  case d3 => unfold maxLen; omega
  case d4 => omega
  case d5 => have := B5.size; simp; omega
  intro v6 w6 hown6 hgrow6 _
  have B6 : Below W2.heap.size W2 w6 := (B5.alloc B5.size _).grown hgrow6 (by have := B5.size; simp; omega) (fun k hk => (hlt5 k hk).1)
  have R : Hid (w6.ownsRow w.heap.size 5 1 v6 8 ([.int .u8 8, .int .u8 (id % 65536 / 256), .int .u8 (id % 65536 % 256)] ++ be4 (x % 4294967296) ++ [.int .u8 0]) ∧ Below w.heap.size w w6) :=
    ⟨own_mono (B := W2.heap.size) (by rw [FS.out]; omega) (by simpa using hown6), fb.trans (B6.mono (by rw [FS.out]; omega))⟩
  clear hown6 hgrow6 hown5 B5 B6 hlt5 hi hz0 hz1 hz2
  go_wp2
  go_ret2
  exact ⟨_, rfl, R.out.1, R.out.2⟩

set_option maxHeartbeats 400000 in
theorem appendStructI32_12 (g1 g2 : Nat) (id x : Int) (w : World) (hc1 : w.cell? ⟨g1, 0, none⟩ = some (.int .i16 id)) (hc2 : w.cell? ⟨g2, 0, none⟩ = some (.int .i32 x))
    (i0 : -32768 ≤ id) (i1 : id ≤ 32767) (x0 : -2147483648 ≤ x) (x1 : x ≤ 2147483647) :
    Calls Tryf.prog 12 #[.slice none 0 0, .slice (some ⟨g1, 0, none⟩) 1 1, .slice (some ⟨g2, 0, none⟩) 1 1, .int .i64 1] w fun e w' => ∃ v', e = .returned (.tuple #[v', .nilIface]) ∧
      w'.ownsRow w.heap.size 5 1 v' 8 ([.int .u8 8, .int .u8 (id % 65536 / 256), .int .u8 (id % 65536 % 256)] ++ be4 (x % 4294967296) ++ [.int .u8 0]) ∧ Below w.heap.size w w' := by
  have l1 := World.block_lt_of_cell? w _ hc1
  have l2 := World.block_lt_of_cell? w _ hc2
  go_enter Tryf.func12, Tryf.ntmps12
  go_wp2_with fail
  refine (i32Struct17 g1 g2 id x w hc1 hc2 l1 l2).mono ?_
  rintro e w1 ⟨S, F, rfl, hS, hF0, hF1, hb1⟩
  clear hc1 hc2 l1 l2
  go_wp2_with fail
  refine (appendStruct16 S F id x w1 hS hF0 hF1 i0 i1 x0 x1).mono ?_
  rintro e w2 ⟨v2, rfl, hown, hb2⟩
  have R : Hid (w2.ownsRow w.heap.size 5 1 v2 8 ([.int .u8 8, .int .u8 (id % 65536 / 256), .int .u8 (id % 65536 % 256)] ++ be4 (x % 4294967296) ++ [.int .u8 0]) ∧ Below w.heap.size w w2) :=
    ⟨own_mono hb1.size hown, hb1.trans (hb2.mono hb1.size)⟩
  clear hS hF0 hF1 hown hb1 hb2
  go_wp2
  go_ret2
  exact ⟨_, rfl, R.out.1, R.out.2⟩

theorem wrap16 (z : Int) : IntKind.u16.wrap z = z % 65536 := by simp [IntKind.wrap, IntKind.bits, IntKind.signed]

set_option maxHeartbeats 800000 in
theorem law4 (x id : Int) (w : World) (t0 : w.cell? ⟨0, 16, none⟩ = some (.string ⟨#[105, 51, 50]⟩)) (t1 : w.cell? ⟨0, 17, none⟩ = some (.int .i64 4))
    (i0 : -32768 ≤ id) (i1 : id ≤ 32767) (x0 : -2147483648 ≤ x) (x1 : x ≤ 2147483647) :
    Calls Tryf.prog 4 #[.int .i32 x, .int .i16 id] w fun e w' => e = .returned (.bool true) ∧ Below w.heap.size w w' := by
  have l0 := World.block_lt_of_cell? w _ t0
  go_enter Tryf.func4, Tryf.ntmps4
  go_wp2_with (go_at_call 11; refine (i32Type11 _ _).mono ?_; rintro e w' ⟨rfl, rfl⟩)
  have hbA : Below w.heap.size w ((w.alloc (.cells #[.int .i16 id] 33)).alloc (.cells #[.int .i32 x] 21)) := ((Below.refl _ w).alloc (Nat.le_refl _) _).alloc (by simp) _
  refine (appendStructI32_12 w.heap.size (w.heap.size + 1) id x _ (by simp) (by simp) i0 i1 x0 x1).mono ?_
  rintro e w2 ⟨v2, rfl, hown, hb2⟩
  have hB : Below w.heap.size w w2 := hbA.trans (hb2.mono hbA.size)
  have u0 : w2.cell? ⟨0, 16, none⟩ = some (.string ⟨#[105, 51, 50]⟩) := cell_later hB t0
  have u1 : w2.cell? ⟨0, 17, none⟩ = some (.int .i64 4) := cell_later hB t1
  obtain ⟨g, cap, rfl⟩ : ∃ g cap, v2 = .slice (some ⟨g, 0, none⟩) 8 cap := by
    rcases hown.2 with ⟨_, h⟩ | ⟨g, cap, _, h, _⟩
    · cases h
    · exact ⟨g, cap, h⟩
  have c0 : w2.cell? ⟨g, 0, none⟩ = some (.int .u8 8) := hown.cellAt 0 (by omega)
  have c1 : w2.cell? ⟨g, 1, none⟩ = some (.int .u8 (id % 65536 / 256)) := hown.cellAt 1 (by omega)
  have c2 : w2.cell? ⟨g, 2, none⟩ = some (.int .u8 (id % 65536 % 256)) := hown.cellAt 2 (by omega)
  have c3 : w2.cell? ⟨g, 3, none⟩ = some (.int .u8 (x % 4294967296 / 16777216)) := hown.cellAt 3 (by omega)
  have c4 : w2.cell? ⟨g, 4, none⟩ = some (.int .u8 (x % 4294967296 / 65536 % 256)) := hown.cellAt 4 (by omega)
  have c5 : w2.cell? ⟨g, 5, none⟩ = some (.int .u8 (x % 4294967296 / 256 % 256)) := hown.cellAt 5 (by omega)
  have c6 : w2.cell? ⟨g, 6, none⟩ = some (.int .u8 (x % 4294967296 % 256)) := hown.cellAt 6 (by omega)
  have c7 : w2.cell? ⟨g, 7, none⟩ = some (.int .u8 0) := hown.cellAt 7 (by omega)
  have G := get32 g cap _ _ _ _ w2 c3 c4 c5 c6 (by omega) (by omega) (by omega) (by omega)
  rw [show x % 4294967296 / 16777216 * 16777216 + x % 4294967296 / 65536 % 256 * 65536 + x % 4294967296 / 256 % 256 * 256 + x % 4294967296 % 256 = x % 4294967296 from by omega] at G
  have HG : Hid (Calls Tryf.prog 10 #[.slice (some ⟨g, 0, none⟩) 8 cap, .int .i64 3] w2 fun e w' => e = .returned (.int .u32 (x % 4294967296)) ∧ ∃ n, w' = w2.drewN n) := G
  have hw16 : IntKind.u16.wrap id = id % 65536 := wrap16 id
  clear G c3 c4 c5 c6 hown hb2 hbA t0 t1
  go_wp2_with (first | (go_at_call 13; refine (minSize13 _ u1).mono ?_; rintro e w' ⟨rfl, rfl⟩) | (go_at_call 10; refine HG.out.mono ?_; rintro e w' ⟨rfl, nn, rfl⟩) | (go_at_call 14; refine (string14 _ (by exact u0)).mono ?_; rintro e w' ⟨rfl, rfl⟩))
  go_ret
  exact ⟨rfl, hB.trans ⟨rfl, rfl, rfl, Nat.le_refl _, fun _ _ => rfl⟩⟩

end Go.Proofs.Qxb6615904aFmt.Road
