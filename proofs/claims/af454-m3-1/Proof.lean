import JvmDerived
import JvmDerived.Pilot.@@N@@Statement
import JvmDerived.Pilot.@@N@@Code
set_option linter.unusedVariables false
set_option linter.unusedSimpArgs false
@@BLOCK:NumsL.lean.txt@@
namespace Jvm.RoadKit
open Sem ClassFile Op Lib Jvm.Stand Jvm.Free Jvm.LawKit
section New
variable {p : Program} {l : Launch} {e : Env} {R : Room} {s : State} {m : MethodId} {args : Array Value} {below : List Frame} {meth : Method} {c : Code} {T : State} {locs : List Loc} {cells slots : Nat}
theorem retI (X : Stand p l e R s m args below meth c T locs cells slots) (hx : p.tables.exec = Jvm.exec) {pc : Nat} {Ls : Array Slot} {z : Int32} {rest : List Value} (hret : meth.sig.returnType = some .int) (hd : decode c.code pc = .ok (.ireturn, 1)) {fs : List Frame}
    (hl : ∀ (f : JFrame) (acts : List Action), f.method = m → f.locked = none → f.entered = [] → (doReturn e (T.setTop f) acts (some (.int z))).1 = T.setFrames fs) : Steps p.tables e below (T.setTop (mkF m pc Ls (.int z :: rest))) (T.setFrames fs) := by
  have hm' : T.vm.method? m = some meth := X.method'
  have hn : narrow .int (.int z) = .int z := rfl
  show Steps p.tables e below (T.setTop { method := m, pc := pc, locals := Ls, stack := _ :: rest, locked := none }) _
  jvm_step X.here [X.here.top, hx, hd, hm', hret, hn]
  first | (intro acts; rw [hl _ acts rfl rfl rfl]) | rw [hl _ _ rfl rfl rfl]
  exact Steps.refl _
end New
end Jvm.RoadKit
namespace Jvm.Pilot.@@N@@
open Jvm Jvm.ClassFile Sem Op Lib Jvm.Free Jvm.Stand Jvm.LawKit Jvm.RoadKit Bundle Jvm.Pilot.@@N@@.Jvm.D
theorem own_nt {b : Bool} (h : b = false) : ¬ b = true := fun q => by rw [h] at q; cases q
theorem own_ts_ne {α : Type} {o : Option α} {a b : α} (h : o = some b) (ne : b ≠ a) : ¬ o = some a := fun q => ne (Option.some.inj (h.symm.trans q))
/-- what lcmp pushes; Java's shifts and the remainder of longs -/
def own_cmp (x y : Int64) : Int32 := lcmpW x y
def own_iushr (x y : Int32) : Int32 := (x.toUInt32 >>> (y &&& 31).toUInt32).toInt32
def own_lushr (x : Int64) (y : Int32) : Int64 := (x.toUInt64 >>> (y &&& 0x3f).toInt64.toUInt64).toInt64
def own_lshl (x : Int64) (y : Int32) : Int64 := x <<< (y &&& 0x3f).toInt64
def own_lshr (x : Int64) (y : Int32) : Int64 := x >>> (y &&& 0x3f).toInt64
def own_lrem (x y : Int64) : Int64 := x - (x / y) * y
theorem own_ieq (x y : Int32) : (if_icmp.holds .eq x y = true) = (x.toInt = y.toInt) := by
  rw [show if_icmp.holds .eq x y = (x == y) from rfl, beq_iff_eq, Int32.toInt_inj]
theorem own_ine (x y : Int32) : (if_icmp.holds .ne x y = true) = (x.toInt ≠ y.toInt) := by
  rw [show if_icmp.holds .ne x y = (x != y) from rfl, bne_iff_ne, ne_eq, ne_eq, Int32.toInt_inj]
theorem own_ilt (x y : Int32) : (if_icmp.holds .lt x y = true) = (x.toInt < y.toInt) := by
  rw [show if_icmp.holds .lt x y = decide (x < y) from rfl, decide_eq_true_eq, Int32.lt_iff_toInt_lt]
theorem own_ige (x y : Int32) : (if_icmp.holds .ge x y = true) = (y.toInt ≤ x.toInt) := by
  rw [show if_icmp.holds .ge x y = decide (y ≤ x) from rfl, decide_eq_true_eq, Int32.le_iff_toInt_le]
theorem own_igt (x y : Int32) : (if_icmp.holds .gt x y = true) = (y.toInt < x.toInt) := by
  rw [show if_icmp.holds .gt x y = decide (y < x) from rfl, decide_eq_true_eq, Int32.lt_iff_toInt_lt]
theorem own_ile (x y : Int32) : (if_icmp.holds .le x y = true) = (x.toInt ≤ y.toInt) := by
  rw [show if_icmp.holds .le x y = decide (x ≤ y) from rfl, decide_eq_true_eq, Int32.le_iff_toInt_le]
theorem own_z32 : (0 : Int32).toInt = 0 := rfl
theorem own_eq0 (x : Int32) : (ifCond.holds .eq x = true) = (x.toInt = 0) := by rw [if0, own_ieq, own_z32]
theorem own_ne0 (x : Int32) : (ifCond.holds .ne x = true) = (x.toInt ≠ 0) := by rw [if0, own_ine, own_z32]
theorem own_lt0 (x : Int32) : (ifCond.holds .lt x = true) = (x.toInt < 0) := by rw [if0, own_ilt, own_z32]
theorem own_ge0 (x : Int32) : (ifCond.holds .ge x = true) = (0 ≤ x.toInt) := by rw [if0, own_ige, own_z32]
theorem own_gt0 (x : Int32) : (ifCond.holds .gt x = true) = (0 < x.toInt) := by rw [if0, own_igt, own_z32]
theorem own_le0 (x : Int32) : (ifCond.holds .le x = true) = (x.toInt ≤ 0) := by rw [if0, own_ile, own_z32]
theorem own_cmp3 (x y : Int64) : (x.toInt < y.toInt ∧ (own_cmp x y).toInt = -1) ∨ (x.toInt = y.toInt ∧ (own_cmp x y).toInt = 0) ∨ (y.toInt < x.toInt ∧ (own_cmp x y).toInt = 1) := by
  obtain ⟨h1, h2, h3⟩ := c_lcmp x y
  have e : own_cmp x y = lcmpW x y := rfl
  rw [e]
  rcases Int.lt_trichotomy x.toInt y.toInt with h | h | h
  · exact Or.inl ⟨h, h1 h⟩
  · exact Or.inr (Or.inl ⟨h, h2 h⟩)
  · exact Or.inr (Or.inr ⟨h, h3 h⟩)
theorem own_ceq (x y : Int64) : (ifCond.holds .eq (own_cmp x y) = true) = (x.toInt = y.toInt) := by
  rw [own_eq0]; have := own_cmp3 x y; exact propext ⟨fun h => by omega, fun h => by omega⟩
theorem own_cne (x y : Int64) : (ifCond.holds .ne (own_cmp x y) = true) = (x.toInt ≠ y.toInt) := by
  rw [own_ne0]; have := own_cmp3 x y; exact propext ⟨fun h => by omega, fun h => by omega⟩
theorem own_clt (x y : Int64) : (ifCond.holds .lt (own_cmp x y) = true) = (x.toInt < y.toInt) := by
  rw [own_lt0]; have := own_cmp3 x y; exact propext ⟨fun h => by omega, fun h => by omega⟩
theorem own_cge (x y : Int64) : (ifCond.holds .ge (own_cmp x y) = true) = (y.toInt ≤ x.toInt) := by
  rw [own_ge0]; have := own_cmp3 x y; exact propext ⟨fun h => by omega, fun h => by omega⟩
theorem own_cgt (x y : Int64) : (ifCond.holds .gt (own_cmp x y) = true) = (y.toInt < x.toInt) := by
  rw [own_gt0]; have := own_cmp3 x y; exact propext ⟨fun h => by omega, fun h => by omega⟩
theorem own_cle (x y : Int64) : (ifCond.holds .le (own_cmp x y) = true) = (x.toInt ≤ y.toInt) := by
  rw [own_le0]; have := own_cmp3 x y; exact propext ⟨fun h => by omega, fun h => by omega⟩
theorem own_nar1 {x : Int32} (h : x = 1) : nar .boolean x = 1 := by rw [h]; rfl
theorem own_nar0 {x : Int32} (h : x = 0) : nar .boolean x = 0 := by rw [h]; rfl
/-- the last row of a law: a comparison that isn't met gives 0, else 1 -/
theorem own_last {c : Prop} [Decidable c] (h : ¬ c) : nar .boolean (if c then (0 : Int32) else 1) = 1 := by rw [if_neg h]; rfl
theorem own_n32 (x : Int32) : (x.toBitVec.toNat : Int) = x.toInt % 4294967296 := by
  have h := x.toBitVec.isLt
  show _ = x.toBitVec.toInt % _
  rw [BitVec.toInt_eq_toNat_cond]
  split <;> omega
theorem own_n64 (x : Int64) : (x.toBitVec.toNat : Int) = x.toInt % 18446744073709551616 := by
  have h := x.toBitVec.isLt
  show _ = x.toBitVec.toInt % _
  rw [BitVec.toInt_eq_toNat_cond]
  split <;> omega
theorem own_iushr_nat (x y : Int32) : (own_iushr x y).toBitVec.toNat = x.toBitVec.toNat / 2 ^ (y.toBitVec.toNat % 32) := by
  have h1 : (y &&& 31).toBitVec.toNat = y.toBitVec.toNat % 32 := by
    show (y.toBitVec &&& (31 : Int32).toBitVec).toNat = _
    rw [BitVec.toNat_and, show (31 : Int32).toBitVec.toNat = 2 ^ 5 - 1 from by decide, Nat.and_two_pow_sub_one_eq_mod]
  show (x.toBitVec >>> ((y &&& 31).toBitVec % 32)).toNat = _
  rw [BitVec.ushiftRight_eq', BitVec.toNat_ushiftRight, Nat.shiftRight_eq_div_pow, BitVec.toNat_umod, h1, show (32 : BitVec 32).toNat = 32 from rfl, Nat.mod_mod]
theorem own_lushr_nat (x : Int64) (y : Int32) : (own_lushr x y).toBitVec.toNat = x.toBitVec.toNat / 2 ^ (y.toBitVec.toNat % 64) := by
  obtain ⟨h1, h2⟩ := sm64 y _ rfl
  show (x.toBitVec >>> ((y &&& 0x3f).toInt64.toBitVec % 64)).toNat = _
  rw [BitVec.ushiftRight_eq', BitVec.toNat_ushiftRight, Nat.shiftRight_eq_div_pow, BitVec.toNat_umod, h1, BitVec.toNat_ofNat]
  congr 2
  show y.toBitVec.toNat % 64 % 2 ^ 64 % 64 = _
  omega
theorem own_iushr_nn (x y : Int32) (h : 0 ≤ x.toInt) : 0 ≤ (own_iushr x y).toInt ∧ (own_iushr x y).toInt ≤ x.toInt := by
  have a := own_iushr_nat x y
  have b := Nat.div_le_self x.toBitVec.toNat (2 ^ (y.toBitVec.toNat % 32))
  have c := own_n32 x
  have d := own_n32 (own_iushr x y)
  have r := rng32 x
  have r2 := rng32 (own_iushr x y)
  omega
theorem own_lushr_nn (x : Int64) (y : Int32) (h : 0 ≤ x.toInt) : 0 ≤ (own_lushr x y).toInt ∧ (own_lushr x y).toInt ≤ x.toInt := by
  have a := own_lushr_nat x y
  have b := Nat.div_le_self x.toBitVec.toNat (2 ^ (y.toBitVec.toNat % 64))
  have c := own_n64 x
  have d := own_n64 (own_lushr x y)
  have r := rng64 x
  have r2 := rng64 (own_lushr x y)
  omega
theorem own_ff {b : Bool} (h : ¬ b = true) : b = false := by cases b <;> first | rfl | exact absurd rfl h
theorem own_clt_f {x y : Int64} (h : ¬ x.toInt < y.toInt) : ifCond.holds .lt (own_cmp x y) = false := own_ff fun q => h ((own_clt x y).mp q)
theorem own_nz {x : Int64} (h : (0 : Int64).toInt < x.toInt) : x ≠ 0 := fun q => by rw [q] at h; exact absurd h (Int.lt_irrefl _)
theorem own_max (x : Int64) : x.toInt ≤ (9223372036854775807 : Int64).toInt := by
  have r := rng64 x
  have e : (9223372036854775807 : Int64).toInt = 9223372036854775807 := rfl
  omega

-- body 1: dev/stratumaudio/BlockSwitching.blockType:(IZZ)I
theorem d1_0 : decode prog_7_method_3_code 0 = .ok (.iload_n 0, 1) := by decide +kernel
theorem d1_1 : decode prog_7_method_3_code 1 = .ok (.ifCond .eq 8, 3) := by decide +kernel
theorem d1_4 : decode prog_7_method_3_code 4 = .ok (.iload_n 0, 1) := by decide +kernel
theorem d1_5 : decode prog_7_method_3_code 5 = .ok (.iconst 3, 1) := by decide +kernel
theorem d1_6 : decode prog_7_method_3_code 6 = .ok (.if_icmp .ne 7, 3) := by decide +kernel
theorem d1_9 : decode prog_7_method_3_code 9 = .ok (.iconst 1, 1) := by decide +kernel
theorem d1_10 : decode prog_7_method_3_code 10 = .ok (.goto 4, 3) := by decide +kernel
theorem d1_13 : decode prog_7_method_3_code 13 = .ok (.iconst 0, 1) := by decide +kernel
theorem d1_14 : decode prog_7_method_3_code 14 = .ok (.istore_n 3, 1) := by decide +kernel
theorem d1_15 : decode prog_7_method_3_code 15 = .ok (.iload_n 1, 1) := by decide +kernel
theorem d1_16 : decode prog_7_method_3_code 16 = .ok (.ifCond .eq 9, 3) := by decide +kernel
theorem d1_19 : decode prog_7_method_3_code 19 = .ok (.iload_n 3, 1) := by decide +kernel
theorem d1_20 : decode prog_7_method_3_code 20 = .ok (.ifCond .ne 5, 3) := by decide +kernel
theorem d1_23 : decode prog_7_method_3_code 23 = .ok (.iconst 2, 1) := by decide +kernel
theorem d1_24 : decode prog_7_method_3_code 24 = .ok (.ireturn, 1) := by decide +kernel
theorem d1_25 : decode prog_7_method_3_code 25 = .ok (.iload_n 3, 1) := by decide +kernel
theorem d1_26 : decode prog_7_method_3_code 26 = .ok (.ifCond .eq 13, 3) := by decide +kernel
theorem d1_29 : decode prog_7_method_3_code 29 = .ok (.iload_n 2, 1) := by decide +kernel
theorem d1_30 : decode prog_7_method_3_code 30 = .ok (.ifCond .eq 7, 3) := by decide +kernel
theorem d1_33 : decode prog_7_method_3_code 33 = .ok (.iconst 1, 1) := by decide +kernel
theorem d1_34 : decode prog_7_method_3_code 34 = .ok (.goto 4, 3) := by decide +kernel
theorem d1_37 : decode prog_7_method_3_code 37 = .ok (.iconst 0, 1) := by decide +kernel
theorem d1_38 : decode prog_7_method_3_code 38 = .ok (.ireturn, 1) := by decide +kernel
theorem d1_39 : decode prog_7_method_3_code 39 = .ok (.iload_n 2, 1) := by decide +kernel
theorem d1_40 : decode prog_7_method_3_code 40 = .ok (.ifCond .eq 7, 3) := by decide +kernel
theorem d1_43 : decode prog_7_method_3_code 43 = .ok (.iconst 2, 1) := by decide +kernel
theorem d1_44 : decode prog_7_method_3_code 44 = .ok (.goto 4, 3) := by decide +kernel
theorem d1_47 : decode prog_7_method_3_code 47 = .ok (.iconst 3, 1) := by decide +kernel
theorem d1_48 : decode prog_7_method_3_code 48 = .ok (.ireturn, 1) := by decide +kernel
theorem pn_0 : plainName "dev/stratumaudio/BlockSwitching" = true := by first | (simp [plainName, overriddenIn]; done) | decide +kernel
theorem ef_1 (m : MethodId) (x0 : Int32) (x1 : Int32) (x2 : Int32) : entryFrame m #[(.int x0), (.int x1), (.int x2)] 4 = mkF m 0 #[.val (.int x0), .val (.int x1), .val (.int x2), .unset] [] := by first | (simp [entryFrame, mkF, argsToLocals, Value.category]; done) | rfl
def f1_j5 (x0 : Int32) (x1 : Int32) (x2 : Int32) : Int32 := if if_icmp.holds .ne x0 (3 : Int32) = true then (0 : Int32) else (1 : Int32)
def f1_j9 (x0 : Int32) (x1 : Int32) (x2 : Int32) : Int32 := if ifCond.holds .eq x0 = true then (1 : Int32) else (f1_j5 x0 x1 x2)
def f1_j18 (x0 : Int32) (x1 : Int32) (x2 : Int32) : Int32 := if ifCond.holds .eq x2 = true then (3 : Int32) else (2 : Int32)
def f1_j24 (x0 : Int32) (x1 : Int32) (x2 : Int32) : Int32 := if ifCond.holds .eq x2 = true then (0 : Int32) else (1 : Int32)
def f1_j34 (x0 : Int32) (x1 : Int32) (x2 : Int32) : Int32 := if ifCond.holds .eq x2 = true then (3 : Int32) else (2 : Int32)
def f1_j40 (x0 : Int32) (x1 : Int32) (x2 : Int32) : Int32 := if ifCond.holds .eq x2 = true then (0 : Int32) else (1 : Int32)
def f1 (x0 : Int32) (x1 : Int32) (x2 : Int32) : Int32 := (if ifCond.holds .eq x1 = true then (if ifCond.holds .eq (f1_j9 x0 x1 x2) = true then (f1_j18 x0 x1 x2) else (f1_j24 x0 x1 x2)) else (if ifCond.holds .ne (f1_j9 x0 x1 x2) = true then (if ifCond.holds .eq (f1_j9 x0 x1 x2) = true then (f1_j34 x0 x1 x2) else (f1_j40 x0 x1 x2)) else (2 : Int32)))
def Q1 (Z : State) (x0 : Int32) (x1 : Int32) (x2 : Int32) (h0 : Heap) (n0 : Nat) (v : Option Value) (h : Heap) (L : List Loc) : Prop := v = some (.int (f1 x0 x1 x2)) ∧ Fr n0 L ∧ h = h0
set_option maxRecDepth 65536 in
set_option maxHeartbeats 40000000 in
theorem rm1 (l : Launch) (Z : State) (a0 : Array Value) (hw : ∀ d ∈ tables_1, d.before a0 Z = true) (ws : List Jvm.Cond) (x0 : Int32) (x1 : Int32) (x2 : Int32) (h0 : Heap) (n0 : Nat) (Z0 : n0 ≤ h0.size) :
    MetFree l (⟨"dev/stratumaudio/BlockSwitching", "blockType", "(IZZ)I"⟩ : MethodName) (head1 (Jvm.Cond.code (⟨"dev/stratumaudio/BlockSwitching", "blockType", "(IZZ)I"⟩ : MethodName) prog_7_method_3_code 4 (some .int) :: ws) ({ frames := 0, cells := 0, slots := 0, locals := 0 } : Room)) (fun a U => a = #[(.int x0), (.int x1), (.int x2)] ∧ Z.Warmed39 U.vm ∧ U.heap = h0) (fun _ _ _ _ _ => True) (fun _ U o U' => ∃ v L, o = .returned v ∧ Q1 Z x0 x1 x2 h0 n0 v U'.heap L ∧ FrameEnd U o U' L ({ frames := 0, cells := 0, slots := 0, locals := 0 } : Room).cells ({ frames := 0, cells := 0, slots := 0, locals := 0 } : Room).slots) := by
  refine MetFree.of_bodySF (plainFor_of_name pn_0) hisR ?_
  intro p e s m args below meth c s₁ Bd hml0 hP hK0
  obtain ⟨rfl, hZ, hh⟩ := hP
  have hx := Bd.exec
  have hby := Bd.bytes
  have hml : c.maxLocals = 4 := hml0
  have hown : s.vm.findClass "dev/stratumaudio/BlockSwitching" = some m.cls := findClass_of_methodNamed Bd.named
  have hnm := (name_of_methodNamed Bd.named Bd.method).1
  have hret : meth.sig.returnType = some .int := Bd.returns
  have hlk : meth.locks = false := Bd.notSynchronized
  have X0 : Stand p l e ({ frames := 0, cells := 0, slots := 0, locals := 0 } : Room) s m #[(.int x0), (.int x1), (.int x2)] below meth c s₁ [] 0 0 := Stand.of_body Bd
  have e0 : s₁.heap = h0 := by rw [← hh, Bd.state]; rfl
  have N0 := Fr.nil n0
  have pre0 : ∀ t, Steps p.tables e below (s₁.setTop (mkF m 0 #[.val (.int x0), .val (.int x1), .val (.int x2), .unset] [])) t → Steps p.tables e below (s₁.setTop (entryFrame m #[(.int x0), (.int x1), (.int x2)] 4)) t := fun t k => castTop (ef_1 m x0 x1 x2) k
  have pre1 : ∀ t, Steps p.tables e below (s₁.setTop (mkF m 1 #[.val (.int x0), .val (.int x1), .val (.int x2), .unset] [(.int x0)])) t → Steps p.tables e below (s₁.setTop (entryFrame m #[(.int x0), (.int x1), (.int x2)] 4)) t := by
    intro t k
    refine pre0 _ ?_
    show Steps p.tables e below (s₁.setTop (mkF m 0 #[.val (.int x0), .val (.int x1), .val (.int x2), .unset] [])) _
    refine XS.iloadN X0.here hx rfl (hb hby d1_0) rfl ?_
    exact k
  obtain ⟨T10, L10, X10, N10, e10, pre10⟩ : ∃ (T' : State) (L' : List Loc), Stand p l e ({ frames := 0, cells := 0, slots := 0, locals := 0 } : Room) s m #[(.int x0), (.int x1), (.int x2)] below meth c T' L' 0 0 ∧ Fr n0 L' ∧ T'.heap = h0 ∧ ∀ t, Steps p.tables e below (T'.setTop (mkF m 14 #[.val (.int x0), .val (.int x1), .val (.int x2), .unset] [(.int (f1_j9 x0 x1 x2))])) t → Steps p.tables e below (s₁.setTop (entryFrame m #[(.int x0), (.int x1), (.int x2)] 4)) t := by
    rcases Bool.eq_false_or_eq_true (ifCond.holds .eq x0) with hc2 | hc2
    · have pre11 : ∀ t, Steps p.tables e below (s₁.setTop (mkF m 14 #[.val (.int x0), .val (.int x1), .val (.int x2), .unset] [(.int (1 : Int32))])) t → Steps p.tables e below (s₁.setTop (entryFrame m #[(.int x0), (.int x1), (.int x2)] 4)) t := by
        intro t k
        refine pre1 _ ?_
        show Steps p.tables e below (s₁.setTop (mkF m 1 #[.val (.int x0), .val (.int x1), .val (.int x2), .unset] [(.int x0)])) _
        refine XS.ifYes X0.here hx rfl (pc0 := 1) (pc' := 9) rfl (hb hby d1_1) rfl hc2 (by decide) (by decide) ?_
        show Steps p.tables e below (s₁.setTop (mkF m 9 #[.val (.int x0), .val (.int x1), .val (.int x2), .unset] [])) _
        refine XS.iconst X0.here hx rfl (hb hby d1_9) ?_
        show Steps p.tables e below (s₁.setTop (mkF m 10 #[.val (.int x0), .val (.int x1), .val (.int x2), .unset] [(.int (1 : Int32))])) _
        refine XS.goto X0.here hx rfl (pc0 := 10) (pc' := 14) rfl (hb hby d1_10) (by decide) (by decide) ?_
        exact k
      have qj0 : (f1_j9 x0 x1 x2) = (1 : Int32) := if_pos hc2
      refine ⟨s₁, _, X0, N0, e0, fun t k => pre11 _ ?_⟩
      rw [qj0] at k
      exact k
    · have pre3 : ∀ t, Steps p.tables e below (s₁.setTop (mkF m 6 #[.val (.int x0), .val (.int x1), .val (.int x2), .unset] [(.int (3 : Int32)), (.int x0)])) t → Steps p.tables e below (s₁.setTop (entryFrame m #[(.int x0), (.int x1), (.int x2)] 4)) t := by
        intro t k
        refine pre1 _ ?_
        show Steps p.tables e below (s₁.setTop (mkF m 1 #[.val (.int x0), .val (.int x1), .val (.int x2), .unset] [(.int x0)])) _
        refine XS.ifNo X0.here hx rfl (hb hby d1_1) rfl hc2 ?_
        show Steps p.tables e below (s₁.setTop (mkF m 4 #[.val (.int x0), .val (.int x1), .val (.int x2), .unset] [])) _
        refine XS.iloadN X0.here hx rfl (hb hby d1_4) rfl ?_
        show Steps p.tables e below (s₁.setTop (mkF m 5 #[.val (.int x0), .val (.int x1), .val (.int x2), .unset] [(.int x0)])) _
        refine XS.iconst X0.here hx rfl (hb hby d1_5) ?_
        exact k
      obtain ⟨T6, L6, X6, N6, e6, pre6⟩ : ∃ (T' : State) (L' : List Loc), Stand p l e ({ frames := 0, cells := 0, slots := 0, locals := 0 } : Room) s m #[(.int x0), (.int x1), (.int x2)] below meth c T' L' 0 0 ∧ Fr n0 L' ∧ T'.heap = h0 ∧ ∀ t, Steps p.tables e below (T'.setTop (mkF m 14 #[.val (.int x0), .val (.int x1), .val (.int x2), .unset] [(.int (f1_j5 x0 x1 x2))])) t → Steps p.tables e below (s₁.setTop (entryFrame m #[(.int x0), (.int x1), (.int x2)] 4)) t := by
        rcases Bool.eq_false_or_eq_true (if_icmp.holds .ne x0 (3 : Int32)) with hc4 | hc4
        · have pre7 : ∀ t, Steps p.tables e below (s₁.setTop (mkF m 14 #[.val (.int x0), .val (.int x1), .val (.int x2), .unset] [(.int (0 : Int32))])) t → Steps p.tables e below (s₁.setTop (entryFrame m #[(.int x0), (.int x1), (.int x2)] 4)) t := by
            intro t k
            refine pre3 _ ?_
            show Steps p.tables e below (s₁.setTop (mkF m 6 #[.val (.int x0), .val (.int x1), .val (.int x2), .unset] [(.int (3 : Int32)), (.int x0)])) _
            refine XS.icmpYes X0.here hx rfl (pc0 := 6) (pc' := 13) rfl (hb hby d1_6) rfl hc4 (by decide) (by decide) ?_
            show Steps p.tables e below (s₁.setTop (mkF m 13 #[.val (.int x0), .val (.int x1), .val (.int x2), .unset] [])) _
            refine XS.iconst X0.here hx rfl (hb hby d1_13) ?_
            exact k
          have qj0 : (f1_j5 x0 x1 x2) = (0 : Int32) := if_pos hc4
          refine ⟨s₁, _, X0, N0, e0, fun t k => pre7 _ ?_⟩
          rw [qj0] at k
          exact k
        · have pre8 : ∀ t, Steps p.tables e below (s₁.setTop (mkF m 14 #[.val (.int x0), .val (.int x1), .val (.int x2), .unset] [(.int (1 : Int32))])) t → Steps p.tables e below (s₁.setTop (entryFrame m #[(.int x0), (.int x1), (.int x2)] 4)) t := by
            intro t k
            refine pre3 _ ?_
            show Steps p.tables e below (s₁.setTop (mkF m 6 #[.val (.int x0), .val (.int x1), .val (.int x2), .unset] [(.int (3 : Int32)), (.int x0)])) _
            refine XS.icmpNo X0.here hx rfl (hb hby d1_6) rfl hc4 ?_
            show Steps p.tables e below (s₁.setTop (mkF m 9 #[.val (.int x0), .val (.int x1), .val (.int x2), .unset] [])) _
            refine XS.iconst X0.here hx rfl (hb hby d1_9) ?_
            show Steps p.tables e below (s₁.setTop (mkF m 10 #[.val (.int x0), .val (.int x1), .val (.int x2), .unset] [(.int (1 : Int32))])) _
            refine XS.goto X0.here hx rfl (pc0 := 10) (pc' := 14) rfl (hb hby d1_10) (by decide) (by decide) ?_
            exact k
          have qj0 : (f1_j5 x0 x1 x2) = (1 : Int32) := if_neg (own_nt hc4)
          refine ⟨s₁, _, X0, N0, e0, fun t k => pre8 _ ?_⟩
          rw [qj0] at k
          exact k
      have qj0 : (f1_j9 x0 x1 x2) = (f1_j5 x0 x1 x2) := if_neg (own_nt hc2)
      refine ⟨T6, _, X6, N6, e6, fun t k => pre6 _ ?_⟩
      rw [qj0] at k
      exact k
  have pre12 : ∀ t, Steps p.tables e below (T10.setTop (mkF m 16 #[.val (.int x0), .val (.int x1), .val (.int x2), .val (.int (f1_j9 x0 x1 x2))] [(.int x1)])) t → Steps p.tables e below (s₁.setTop (entryFrame m #[(.int x0), (.int x1), (.int x2)] 4)) t := by
    intro t k
    refine pre10 _ ?_
    show Steps p.tables e below (T10.setTop (mkF m 14 #[.val (.int x0), .val (.int x1), .val (.int x2), .unset] [(.int (f1_j9 x0 x1 x2))])) _
    refine XS.istoreN X10.here hx rfl (hb hby d1_14) rfl (l' := #[.val (.int x0), .val (.int x1), .val (.int x2), .val (.int (f1_j9 x0 x1 x2))]) rfl ?_
    show Steps p.tables e below (T10.setTop (mkF m 15 #[.val (.int x0), .val (.int x1), .val (.int x2), .val (.int (f1_j9 x0 x1 x2))] [])) _
    refine XS.iloadN X10.here hx rfl (hb hby d1_15) rfl ?_
    exact k
  rcases Bool.eq_false_or_eq_true (ifCond.holds .eq x1) with hc13 | hc13
  · have pre14 : ∀ t, Steps p.tables e below (T10.setTop (mkF m 26 #[.val (.int x0), .val (.int x1), .val (.int x2), .val (.int (f1_j9 x0 x1 x2))] [(.int (f1_j9 x0 x1 x2))])) t → Steps p.tables e below (s₁.setTop (entryFrame m #[(.int x0), (.int x1), (.int x2)] 4)) t := by
      intro t k
      refine pre12 _ ?_
      show Steps p.tables e below (T10.setTop (mkF m 16 #[.val (.int x0), .val (.int x1), .val (.int x2), .val (.int (f1_j9 x0 x1 x2))] [(.int x1)])) _
      refine XS.ifYes X10.here hx rfl (pc0 := 16) (pc' := 25) rfl (hb hby d1_16) rfl hc13 (by decide) (by decide) ?_
      show Steps p.tables e below (T10.setTop (mkF m 25 #[.val (.int x0), .val (.int x1), .val (.int x2), .val (.int (f1_j9 x0 x1 x2))] [])) _
      refine XS.iloadN X10.here hx rfl (hb hby d1_25) rfl ?_
      exact k
    rcases Bool.eq_false_or_eq_true (ifCond.holds .eq (f1_j9 x0 x1 x2)) with hc15 | hc15
    · have pre16 : ∀ t, Steps p.tables e below (T10.setTop (mkF m 40 #[.val (.int x0), .val (.int x1), .val (.int x2), .val (.int (f1_j9 x0 x1 x2))] [(.int x2)])) t → Steps p.tables e below (s₁.setTop (entryFrame m #[(.int x0), (.int x1), (.int x2)] 4)) t := by
        intro t k
        refine pre14 _ ?_
        show Steps p.tables e below (T10.setTop (mkF m 26 #[.val (.int x0), .val (.int x1), .val (.int x2), .val (.int (f1_j9 x0 x1 x2))] [(.int (f1_j9 x0 x1 x2))])) _
        refine XS.ifYes X10.here hx rfl (pc0 := 26) (pc' := 39) rfl (hb hby d1_26) rfl hc15 (by decide) (by decide) ?_
        show Steps p.tables e below (T10.setTop (mkF m 39 #[.val (.int x0), .val (.int x1), .val (.int x2), .val (.int (f1_j9 x0 x1 x2))] [])) _
        refine XS.iloadN X10.here hx rfl (hb hby d1_39) rfl ?_
        exact k
      obtain ⟨T19, L19, X19, N19, e19, pre19⟩ : ∃ (T' : State) (L' : List Loc), Stand p l e ({ frames := 0, cells := 0, slots := 0, locals := 0 } : Room) s m #[(.int x0), (.int x1), (.int x2)] below meth c T' L' 0 0 ∧ Fr n0 L' ∧ T'.heap = h0 ∧ ∀ t, Steps p.tables e below (T'.setTop (mkF m 48 #[.val (.int x0), .val (.int x1), .val (.int x2), .val (.int (f1_j9 x0 x1 x2))] [(.int (f1_j18 x0 x1 x2))])) t → Steps p.tables e below (s₁.setTop (entryFrame m #[(.int x0), (.int x1), (.int x2)] 4)) t := by
        rcases Bool.eq_false_or_eq_true (ifCond.holds .eq x2) with hc17 | hc17
        · have pre20 : ∀ t, Steps p.tables e below (T10.setTop (mkF m 48 #[.val (.int x0), .val (.int x1), .val (.int x2), .val (.int (f1_j9 x0 x1 x2))] [(.int (3 : Int32))])) t → Steps p.tables e below (s₁.setTop (entryFrame m #[(.int x0), (.int x1), (.int x2)] 4)) t := by
            intro t k
            refine pre16 _ ?_
            show Steps p.tables e below (T10.setTop (mkF m 40 #[.val (.int x0), .val (.int x1), .val (.int x2), .val (.int (f1_j9 x0 x1 x2))] [(.int x2)])) _
            refine XS.ifYes X10.here hx rfl (pc0 := 40) (pc' := 47) rfl (hb hby d1_40) rfl hc17 (by decide) (by decide) ?_
            show Steps p.tables e below (T10.setTop (mkF m 47 #[.val (.int x0), .val (.int x1), .val (.int x2), .val (.int (f1_j9 x0 x1 x2))] [])) _
            refine XS.iconst X10.here hx rfl (hb hby d1_47) ?_
            exact k
          have qj0 : (f1_j18 x0 x1 x2) = (3 : Int32) := if_pos hc17
          refine ⟨T10, _, X10, N10, e10, fun t k => pre20 _ ?_⟩
          rw [qj0] at k
          exact k
        · have pre21 : ∀ t, Steps p.tables e below (T10.setTop (mkF m 48 #[.val (.int x0), .val (.int x1), .val (.int x2), .val (.int (f1_j9 x0 x1 x2))] [(.int (2 : Int32))])) t → Steps p.tables e below (s₁.setTop (entryFrame m #[(.int x0), (.int x1), (.int x2)] 4)) t := by
            intro t k
            refine pre16 _ ?_
            show Steps p.tables e below (T10.setTop (mkF m 40 #[.val (.int x0), .val (.int x1), .val (.int x2), .val (.int (f1_j9 x0 x1 x2))] [(.int x2)])) _
            refine XS.ifNo X10.here hx rfl (hb hby d1_40) rfl hc17 ?_
            show Steps p.tables e below (T10.setTop (mkF m 43 #[.val (.int x0), .val (.int x1), .val (.int x2), .val (.int (f1_j9 x0 x1 x2))] [])) _
            refine XS.iconst X10.here hx rfl (hb hby d1_43) ?_
            show Steps p.tables e below (T10.setTop (mkF m 44 #[.val (.int x0), .val (.int x1), .val (.int x2), .val (.int (f1_j9 x0 x1 x2))] [(.int (2 : Int32))])) _
            refine XS.goto X10.here hx rfl (pc0 := 44) (pc' := 48) rfl (hb hby d1_44) (by decide) (by decide) ?_
            exact k
          have qj0 : (f1_j18 x0 x1 x2) = (2 : Int32) := if_neg (own_nt hc17)
          refine ⟨T10, _, X10, N10, e10, fun t k => pre21 _ ?_⟩
          rw [qj0] at k
          exact k
      obtain ⟨fs, hr, hrun, hended, hW, hsame⟩ := X19.leave (v := some (.int (f1_j18 x0 x1 x2))) (fun h => by rw [hret] at h; cases h)
      refine ⟨_, _, pre19 _ ?_, hrun, hended, _, _, rfl, ?_, ⟨_, rfl⟩, hW, hsame.mono (by decide) (by decide)⟩
      · show Steps p.tables e below (T19.setTop (mkF m 48 #[.val (.int x0), .val (.int x1), .val (.int x2), .val (.int (f1_j9 x0 x1 x2))] [(.int (f1_j18 x0 x1 x2))])) _
        exact retI X19 hx hret (hb hby d1_48) hr
      · show Q1 Z x0 x1 x2 h0 n0 _ T19.heap _
        rw [e19]
        have rr : f1 x0 x1 x2 = (f1_j18 x0 x1 x2) := Eq.trans (if_pos hc13) (if_pos hc15)
        exact ⟨congrArg (fun z => some (Value.int z)) rr.symm, N19, rfl⟩
    · have pre22 : ∀ t, Steps p.tables e below (T10.setTop (mkF m 30 #[.val (.int x0), .val (.int x1), .val (.int x2), .val (.int (f1_j9 x0 x1 x2))] [(.int x2)])) t → Steps p.tables e below (s₁.setTop (entryFrame m #[(.int x0), (.int x1), (.int x2)] 4)) t := by
        intro t k
        refine pre14 _ ?_
        show Steps p.tables e below (T10.setTop (mkF m 26 #[.val (.int x0), .val (.int x1), .val (.int x2), .val (.int (f1_j9 x0 x1 x2))] [(.int (f1_j9 x0 x1 x2))])) _
        refine XS.ifNo X10.here hx rfl (hb hby d1_26) rfl hc15 ?_
        show Steps p.tables e below (T10.setTop (mkF m 29 #[.val (.int x0), .val (.int x1), .val (.int x2), .val (.int (f1_j9 x0 x1 x2))] [])) _
        refine XS.iloadN X10.here hx rfl (hb hby d1_29) rfl ?_
        exact k
      obtain ⟨T25, L25, X25, N25, e25, pre25⟩ : ∃ (T' : State) (L' : List Loc), Stand p l e ({ frames := 0, cells := 0, slots := 0, locals := 0 } : Room) s m #[(.int x0), (.int x1), (.int x2)] below meth c T' L' 0 0 ∧ Fr n0 L' ∧ T'.heap = h0 ∧ ∀ t, Steps p.tables e below (T'.setTop (mkF m 38 #[.val (.int x0), .val (.int x1), .val (.int x2), .val (.int (f1_j9 x0 x1 x2))] [(.int (f1_j24 x0 x1 x2))])) t → Steps p.tables e below (s₁.setTop (entryFrame m #[(.int x0), (.int x1), (.int x2)] 4)) t := by
        rcases Bool.eq_false_or_eq_true (ifCond.holds .eq x2) with hc23 | hc23
        · have pre26 : ∀ t, Steps p.tables e below (T10.setTop (mkF m 38 #[.val (.int x0), .val (.int x1), .val (.int x2), .val (.int (f1_j9 x0 x1 x2))] [(.int (0 : Int32))])) t → Steps p.tables e below (s₁.setTop (entryFrame m #[(.int x0), (.int x1), (.int x2)] 4)) t := by
            intro t k
            refine pre22 _ ?_
            show Steps p.tables e below (T10.setTop (mkF m 30 #[.val (.int x0), .val (.int x1), .val (.int x2), .val (.int (f1_j9 x0 x1 x2))] [(.int x2)])) _
            refine XS.ifYes X10.here hx rfl (pc0 := 30) (pc' := 37) rfl (hb hby d1_30) rfl hc23 (by decide) (by decide) ?_
            show Steps p.tables e below (T10.setTop (mkF m 37 #[.val (.int x0), .val (.int x1), .val (.int x2), .val (.int (f1_j9 x0 x1 x2))] [])) _
            refine XS.iconst X10.here hx rfl (hb hby d1_37) ?_
            exact k
          have qj0 : (f1_j24 x0 x1 x2) = (0 : Int32) := if_pos hc23
          refine ⟨T10, _, X10, N10, e10, fun t k => pre26 _ ?_⟩
          rw [qj0] at k
          exact k
        · have pre27 : ∀ t, Steps p.tables e below (T10.setTop (mkF m 38 #[.val (.int x0), .val (.int x1), .val (.int x2), .val (.int (f1_j9 x0 x1 x2))] [(.int (1 : Int32))])) t → Steps p.tables e below (s₁.setTop (entryFrame m #[(.int x0), (.int x1), (.int x2)] 4)) t := by
            intro t k
            refine pre22 _ ?_
            show Steps p.tables e below (T10.setTop (mkF m 30 #[.val (.int x0), .val (.int x1), .val (.int x2), .val (.int (f1_j9 x0 x1 x2))] [(.int x2)])) _
            refine XS.ifNo X10.here hx rfl (hb hby d1_30) rfl hc23 ?_
            show Steps p.tables e below (T10.setTop (mkF m 33 #[.val (.int x0), .val (.int x1), .val (.int x2), .val (.int (f1_j9 x0 x1 x2))] [])) _
            refine XS.iconst X10.here hx rfl (hb hby d1_33) ?_
            show Steps p.tables e below (T10.setTop (mkF m 34 #[.val (.int x0), .val (.int x1), .val (.int x2), .val (.int (f1_j9 x0 x1 x2))] [(.int (1 : Int32))])) _
            refine XS.goto X10.here hx rfl (pc0 := 34) (pc' := 38) rfl (hb hby d1_34) (by decide) (by decide) ?_
            exact k
          have qj0 : (f1_j24 x0 x1 x2) = (1 : Int32) := if_neg (own_nt hc23)
          refine ⟨T10, _, X10, N10, e10, fun t k => pre27 _ ?_⟩
          rw [qj0] at k
          exact k
      obtain ⟨fs, hr, hrun, hended, hW, hsame⟩ := X25.leave (v := some (.int (f1_j24 x0 x1 x2))) (fun h => by rw [hret] at h; cases h)
      refine ⟨_, _, pre25 _ ?_, hrun, hended, _, _, rfl, ?_, ⟨_, rfl⟩, hW, hsame.mono (by decide) (by decide)⟩
      · show Steps p.tables e below (T25.setTop (mkF m 38 #[.val (.int x0), .val (.int x1), .val (.int x2), .val (.int (f1_j9 x0 x1 x2))] [(.int (f1_j24 x0 x1 x2))])) _
        exact retI X25 hx hret (hb hby d1_38) hr
      · show Q1 Z x0 x1 x2 h0 n0 _ T25.heap _
        rw [e25]
        have rr : f1 x0 x1 x2 = (f1_j24 x0 x1 x2) := Eq.trans (if_pos hc13) (if_neg (own_nt hc15))
        exact ⟨congrArg (fun z => some (Value.int z)) rr.symm, N25, rfl⟩
  · have pre28 : ∀ t, Steps p.tables e below (T10.setTop (mkF m 20 #[.val (.int x0), .val (.int x1), .val (.int x2), .val (.int (f1_j9 x0 x1 x2))] [(.int (f1_j9 x0 x1 x2))])) t → Steps p.tables e below (s₁.setTop (entryFrame m #[(.int x0), (.int x1), (.int x2)] 4)) t := by
      intro t k
      refine pre12 _ ?_
      show Steps p.tables e below (T10.setTop (mkF m 16 #[.val (.int x0), .val (.int x1), .val (.int x2), .val (.int (f1_j9 x0 x1 x2))] [(.int x1)])) _
      refine XS.ifNo X10.here hx rfl (hb hby d1_16) rfl hc13 ?_
      show Steps p.tables e below (T10.setTop (mkF m 19 #[.val (.int x0), .val (.int x1), .val (.int x2), .val (.int (f1_j9 x0 x1 x2))] [])) _
      refine XS.iloadN X10.here hx rfl (hb hby d1_19) rfl ?_
      exact k
    rcases Bool.eq_false_or_eq_true (ifCond.holds .ne (f1_j9 x0 x1 x2)) with hc29 | hc29
    · have pre30 : ∀ t, Steps p.tables e below (T10.setTop (mkF m 26 #[.val (.int x0), .val (.int x1), .val (.int x2), .val (.int (f1_j9 x0 x1 x2))] [(.int (f1_j9 x0 x1 x2))])) t → Steps p.tables e below (s₁.setTop (entryFrame m #[(.int x0), (.int x1), (.int x2)] 4)) t := by
        intro t k
        refine pre28 _ ?_
        show Steps p.tables e below (T10.setTop (mkF m 20 #[.val (.int x0), .val (.int x1), .val (.int x2), .val (.int (f1_j9 x0 x1 x2))] [(.int (f1_j9 x0 x1 x2))])) _
        refine XS.ifYes X10.here hx rfl (pc0 := 20) (pc' := 25) rfl (hb hby d1_20) rfl hc29 (by decide) (by decide) ?_
        show Steps p.tables e below (T10.setTop (mkF m 25 #[.val (.int x0), .val (.int x1), .val (.int x2), .val (.int (f1_j9 x0 x1 x2))] [])) _
        refine XS.iloadN X10.here hx rfl (hb hby d1_25) rfl ?_
        exact k
      rcases Bool.eq_false_or_eq_true (ifCond.holds .eq (f1_j9 x0 x1 x2)) with hc31 | hc31
      · have pre32 : ∀ t, Steps p.tables e below (T10.setTop (mkF m 40 #[.val (.int x0), .val (.int x1), .val (.int x2), .val (.int (f1_j9 x0 x1 x2))] [(.int x2)])) t → Steps p.tables e below (s₁.setTop (entryFrame m #[(.int x0), (.int x1), (.int x2)] 4)) t := by
          intro t k
          refine pre30 _ ?_
          show Steps p.tables e below (T10.setTop (mkF m 26 #[.val (.int x0), .val (.int x1), .val (.int x2), .val (.int (f1_j9 x0 x1 x2))] [(.int (f1_j9 x0 x1 x2))])) _
          refine XS.ifYes X10.here hx rfl (pc0 := 26) (pc' := 39) rfl (hb hby d1_26) rfl hc31 (by decide) (by decide) ?_
          show Steps p.tables e below (T10.setTop (mkF m 39 #[.val (.int x0), .val (.int x1), .val (.int x2), .val (.int (f1_j9 x0 x1 x2))] [])) _
          refine XS.iloadN X10.here hx rfl (hb hby d1_39) rfl ?_
          exact k
        obtain ⟨T35, L35, X35, N35, e35, pre35⟩ : ∃ (T' : State) (L' : List Loc), Stand p l e ({ frames := 0, cells := 0, slots := 0, locals := 0 } : Room) s m #[(.int x0), (.int x1), (.int x2)] below meth c T' L' 0 0 ∧ Fr n0 L' ∧ T'.heap = h0 ∧ ∀ t, Steps p.tables e below (T'.setTop (mkF m 48 #[.val (.int x0), .val (.int x1), .val (.int x2), .val (.int (f1_j9 x0 x1 x2))] [(.int (f1_j34 x0 x1 x2))])) t → Steps p.tables e below (s₁.setTop (entryFrame m #[(.int x0), (.int x1), (.int x2)] 4)) t := by
          rcases Bool.eq_false_or_eq_true (ifCond.holds .eq x2) with hc33 | hc33
          · have pre36 : ∀ t, Steps p.tables e below (T10.setTop (mkF m 48 #[.val (.int x0), .val (.int x1), .val (.int x2), .val (.int (f1_j9 x0 x1 x2))] [(.int (3 : Int32))])) t → Steps p.tables e below (s₁.setTop (entryFrame m #[(.int x0), (.int x1), (.int x2)] 4)) t := by
              intro t k
              refine pre32 _ ?_
              show Steps p.tables e below (T10.setTop (mkF m 40 #[.val (.int x0), .val (.int x1), .val (.int x2), .val (.int (f1_j9 x0 x1 x2))] [(.int x2)])) _
              refine XS.ifYes X10.here hx rfl (pc0 := 40) (pc' := 47) rfl (hb hby d1_40) rfl hc33 (by decide) (by decide) ?_
              show Steps p.tables e below (T10.setTop (mkF m 47 #[.val (.int x0), .val (.int x1), .val (.int x2), .val (.int (f1_j9 x0 x1 x2))] [])) _
              refine XS.iconst X10.here hx rfl (hb hby d1_47) ?_
              exact k
            have qj0 : (f1_j34 x0 x1 x2) = (3 : Int32) := if_pos hc33
            refine ⟨T10, _, X10, N10, e10, fun t k => pre36 _ ?_⟩
            rw [qj0] at k
            exact k
          · have pre37 : ∀ t, Steps p.tables e below (T10.setTop (mkF m 48 #[.val (.int x0), .val (.int x1), .val (.int x2), .val (.int (f1_j9 x0 x1 x2))] [(.int (2 : Int32))])) t → Steps p.tables e below (s₁.setTop (entryFrame m #[(.int x0), (.int x1), (.int x2)] 4)) t := by
              intro t k
              refine pre32 _ ?_
              show Steps p.tables e below (T10.setTop (mkF m 40 #[.val (.int x0), .val (.int x1), .val (.int x2), .val (.int (f1_j9 x0 x1 x2))] [(.int x2)])) _
              refine XS.ifNo X10.here hx rfl (hb hby d1_40) rfl hc33 ?_
              show Steps p.tables e below (T10.setTop (mkF m 43 #[.val (.int x0), .val (.int x1), .val (.int x2), .val (.int (f1_j9 x0 x1 x2))] [])) _
              refine XS.iconst X10.here hx rfl (hb hby d1_43) ?_
              show Steps p.tables e below (T10.setTop (mkF m 44 #[.val (.int x0), .val (.int x1), .val (.int x2), .val (.int (f1_j9 x0 x1 x2))] [(.int (2 : Int32))])) _
              refine XS.goto X10.here hx rfl (pc0 := 44) (pc' := 48) rfl (hb hby d1_44) (by decide) (by decide) ?_
              exact k
            have qj0 : (f1_j34 x0 x1 x2) = (2 : Int32) := if_neg (own_nt hc33)
            refine ⟨T10, _, X10, N10, e10, fun t k => pre37 _ ?_⟩
            rw [qj0] at k
            exact k
        obtain ⟨fs, hr, hrun, hended, hW, hsame⟩ := X35.leave (v := some (.int (f1_j34 x0 x1 x2))) (fun h => by rw [hret] at h; cases h)
        refine ⟨_, _, pre35 _ ?_, hrun, hended, _, _, rfl, ?_, ⟨_, rfl⟩, hW, hsame.mono (by decide) (by decide)⟩
        · show Steps p.tables e below (T35.setTop (mkF m 48 #[.val (.int x0), .val (.int x1), .val (.int x2), .val (.int (f1_j9 x0 x1 x2))] [(.int (f1_j34 x0 x1 x2))])) _
          exact retI X35 hx hret (hb hby d1_48) hr
        · show Q1 Z x0 x1 x2 h0 n0 _ T35.heap _
          rw [e35]
          have rr : f1 x0 x1 x2 = (f1_j34 x0 x1 x2) := Eq.trans (if_neg (own_nt hc13)) (Eq.trans (if_pos hc29) (if_pos hc31))
          exact ⟨congrArg (fun z => some (Value.int z)) rr.symm, N35, rfl⟩
      · have pre38 : ∀ t, Steps p.tables e below (T10.setTop (mkF m 30 #[.val (.int x0), .val (.int x1), .val (.int x2), .val (.int (f1_j9 x0 x1 x2))] [(.int x2)])) t → Steps p.tables e below (s₁.setTop (entryFrame m #[(.int x0), (.int x1), (.int x2)] 4)) t := by
          intro t k
          refine pre30 _ ?_
          show Steps p.tables e below (T10.setTop (mkF m 26 #[.val (.int x0), .val (.int x1), .val (.int x2), .val (.int (f1_j9 x0 x1 x2))] [(.int (f1_j9 x0 x1 x2))])) _
          refine XS.ifNo X10.here hx rfl (hb hby d1_26) rfl hc31 ?_
          show Steps p.tables e below (T10.setTop (mkF m 29 #[.val (.int x0), .val (.int x1), .val (.int x2), .val (.int (f1_j9 x0 x1 x2))] [])) _
          refine XS.iloadN X10.here hx rfl (hb hby d1_29) rfl ?_
          exact k
        obtain ⟨T41, L41, X41, N41, e41, pre41⟩ : ∃ (T' : State) (L' : List Loc), Stand p l e ({ frames := 0, cells := 0, slots := 0, locals := 0 } : Room) s m #[(.int x0), (.int x1), (.int x2)] below meth c T' L' 0 0 ∧ Fr n0 L' ∧ T'.heap = h0 ∧ ∀ t, Steps p.tables e below (T'.setTop (mkF m 38 #[.val (.int x0), .val (.int x1), .val (.int x2), .val (.int (f1_j9 x0 x1 x2))] [(.int (f1_j40 x0 x1 x2))])) t → Steps p.tables e below (s₁.setTop (entryFrame m #[(.int x0), (.int x1), (.int x2)] 4)) t := by
          rcases Bool.eq_false_or_eq_true (ifCond.holds .eq x2) with hc39 | hc39
          · have pre42 : ∀ t, Steps p.tables e below (T10.setTop (mkF m 38 #[.val (.int x0), .val (.int x1), .val (.int x2), .val (.int (f1_j9 x0 x1 x2))] [(.int (0 : Int32))])) t → Steps p.tables e below (s₁.setTop (entryFrame m #[(.int x0), (.int x1), (.int x2)] 4)) t := by
              intro t k
              refine pre38 _ ?_
              show Steps p.tables e below (T10.setTop (mkF m 30 #[.val (.int x0), .val (.int x1), .val (.int x2), .val (.int (f1_j9 x0 x1 x2))] [(.int x2)])) _
              refine XS.ifYes X10.here hx rfl (pc0 := 30) (pc' := 37) rfl (hb hby d1_30) rfl hc39 (by decide) (by decide) ?_
              show Steps p.tables e below (T10.setTop (mkF m 37 #[.val (.int x0), .val (.int x1), .val (.int x2), .val (.int (f1_j9 x0 x1 x2))] [])) _
              refine XS.iconst X10.here hx rfl (hb hby d1_37) ?_
              exact k
            have qj0 : (f1_j40 x0 x1 x2) = (0 : Int32) := if_pos hc39
            refine ⟨T10, _, X10, N10, e10, fun t k => pre42 _ ?_⟩
            rw [qj0] at k
            exact k
          · have pre43 : ∀ t, Steps p.tables e below (T10.setTop (mkF m 38 #[.val (.int x0), .val (.int x1), .val (.int x2), .val (.int (f1_j9 x0 x1 x2))] [(.int (1 : Int32))])) t → Steps p.tables e below (s₁.setTop (entryFrame m #[(.int x0), (.int x1), (.int x2)] 4)) t := by
              intro t k
              refine pre38 _ ?_
              show Steps p.tables e below (T10.setTop (mkF m 30 #[.val (.int x0), .val (.int x1), .val (.int x2), .val (.int (f1_j9 x0 x1 x2))] [(.int x2)])) _
              refine XS.ifNo X10.here hx rfl (hb hby d1_30) rfl hc39 ?_
              show Steps p.tables e below (T10.setTop (mkF m 33 #[.val (.int x0), .val (.int x1), .val (.int x2), .val (.int (f1_j9 x0 x1 x2))] [])) _
              refine XS.iconst X10.here hx rfl (hb hby d1_33) ?_
              show Steps p.tables e below (T10.setTop (mkF m 34 #[.val (.int x0), .val (.int x1), .val (.int x2), .val (.int (f1_j9 x0 x1 x2))] [(.int (1 : Int32))])) _
              refine XS.goto X10.here hx rfl (pc0 := 34) (pc' := 38) rfl (hb hby d1_34) (by decide) (by decide) ?_
              exact k
            have qj0 : (f1_j40 x0 x1 x2) = (1 : Int32) := if_neg (own_nt hc39)
            refine ⟨T10, _, X10, N10, e10, fun t k => pre43 _ ?_⟩
            rw [qj0] at k
            exact k
        obtain ⟨fs, hr, hrun, hended, hW, hsame⟩ := X41.leave (v := some (.int (f1_j40 x0 x1 x2))) (fun h => by rw [hret] at h; cases h)
        refine ⟨_, _, pre41 _ ?_, hrun, hended, _, _, rfl, ?_, ⟨_, rfl⟩, hW, hsame.mono (by decide) (by decide)⟩
        · show Steps p.tables e below (T41.setTop (mkF m 38 #[.val (.int x0), .val (.int x1), .val (.int x2), .val (.int (f1_j9 x0 x1 x2))] [(.int (f1_j40 x0 x1 x2))])) _
          exact retI X41 hx hret (hb hby d1_38) hr
        · show Q1 Z x0 x1 x2 h0 n0 _ T41.heap _
          rw [e41]
          have rr : f1 x0 x1 x2 = (f1_j40 x0 x1 x2) := Eq.trans (if_neg (own_nt hc13)) (Eq.trans (if_pos hc29) (if_neg (own_nt hc31)))
          exact ⟨congrArg (fun z => some (Value.int z)) rr.symm, N41, rfl⟩
    · obtain ⟨fs, hr, hrun, hended, hW, hsame⟩ := X10.leave (v := some (.int (2 : Int32))) (fun h => by rw [hret] at h; cases h)
      refine ⟨_, _, pre28 _ ?_, hrun, hended, _, _, rfl, ?_, ⟨_, rfl⟩, hW, hsame.mono (by decide) (by decide)⟩
      · show Steps p.tables e below (T10.setTop (mkF m 20 #[.val (.int x0), .val (.int x1), .val (.int x2), .val (.int (f1_j9 x0 x1 x2))] [(.int (f1_j9 x0 x1 x2))])) _
        refine XS.ifNo X10.here hx rfl (hb hby d1_20) rfl hc29 ?_
        show Steps p.tables e below (T10.setTop (mkF m 23 #[.val (.int x0), .val (.int x1), .val (.int x2), .val (.int (f1_j9 x0 x1 x2))] [])) _
        refine XS.iconst X10.here hx rfl (hb hby d1_23) ?_
        show Steps p.tables e below (T10.setTop (mkF m 24 #[.val (.int x0), .val (.int x1), .val (.int x2), .val (.int (f1_j9 x0 x1 x2))] [(.int (2 : Int32))])) _
        exact retI X10 hx hret (hb hby d1_24) hr
      · show Q1 Z x0 x1 x2 h0 n0 _ T10.heap _
        rw [e10]
        have rr : f1 x0 x1 x2 = (2 : Int32) := Eq.trans (if_neg (own_nt hc13)) (if_neg (own_nt hc29))
        exact ⟨congrArg (fun z => some (Value.int z)) rr.symm, N10, rfl⟩
-- body 3: dev/stratumaudio/BlockSwitchingBlockTypePinLaw.isLong:(I)Z
theorem d3_0 : decode method_2_code 0 = .ok (.iload_n 0, 1) := by decide +kernel
theorem d3_1 : decode method_2_code 1 = .ok (.ifCond .eq 8, 3) := by decide +kernel
theorem d3_4 : decode method_2_code 4 = .ok (.iload_n 0, 1) := by decide +kernel
theorem d3_5 : decode method_2_code 5 = .ok (.iconst 3, 1) := by decide +kernel
theorem d3_6 : decode method_2_code 6 = .ok (.if_icmp .ne 7, 3) := by decide +kernel
theorem d3_9 : decode method_2_code 9 = .ok (.iconst 1, 1) := by decide +kernel
theorem d3_10 : decode method_2_code 10 = .ok (.goto 4, 3) := by decide +kernel
theorem d3_13 : decode method_2_code 13 = .ok (.iconst 0, 1) := by decide +kernel
theorem d3_14 : decode method_2_code 14 = .ok (.ireturn, 1) := by decide +kernel
theorem pn_1 : plainName "dev/stratumaudio/BlockSwitchingBlockTypePinLaw" = true := by first | (simp [plainName, overriddenIn]; done) | decide +kernel
theorem ef_3 (m : MethodId) (x0 : Int32) : entryFrame m #[(.int x0)] 1 = mkF m 0 #[.val (.int x0)] [] := by first | (simp [entryFrame, mkF, argsToLocals, Value.category]; done) | rfl
def f3_j5 (x0 : Int32) : Int32 := if if_icmp.holds .ne x0 (3 : Int32) = true then (0 : Int32) else (1 : Int32)
def f3_j9 (x0 : Int32) : Int32 := if ifCond.holds .eq x0 = true then (1 : Int32) else (f3_j5 x0)
def f3 (x0 : Int32) : Int32 := (nar .boolean (f3_j9 x0))
def Q3 (Z : State) (x0 : Int32) (h0 : Heap) (n0 : Nat) (v : Option Value) (h : Heap) (L : List Loc) : Prop := v = some (.int (f3 x0)) ∧ Fr n0 L ∧ h = h0
set_option maxRecDepth 65536 in
set_option maxHeartbeats 40000000 in
theorem rm3 (l : Launch) (Z : State) (a0 : Array Value) (hw : ∀ d ∈ tables_1, d.before a0 Z = true) (ws : List Jvm.Cond) (x0 : Int32) (h0 : Heap) (n0 : Nat) (Z0 : n0 ≤ h0.size) :
    MetFree l (⟨"dev/stratumaudio/BlockSwitchingBlockTypePinLaw", "isLong", "(I)Z"⟩ : MethodName) (head1 (Jvm.Cond.code (⟨"dev/stratumaudio/BlockSwitchingBlockTypePinLaw", "isLong", "(I)Z"⟩ : MethodName) method_2_code 1 (some .boolean) :: ws) ({ frames := 0, cells := 0, slots := 0, locals := 0 } : Room)) (fun a U => a = #[(.int x0)] ∧ Z.Warmed39 U.vm ∧ U.heap = h0) (fun _ _ _ _ _ => True) (fun _ U o U' => ∃ v L, o = .returned v ∧ Q3 Z x0 h0 n0 v U'.heap L ∧ FrameEnd U o U' L ({ frames := 0, cells := 0, slots := 0, locals := 0 } : Room).cells ({ frames := 0, cells := 0, slots := 0, locals := 0 } : Room).slots) := by
  refine MetFree.of_bodySF (plainFor_of_name pn_1) hisR ?_
  intro p e s m args below meth c s₁ Bd hml0 hP hK0
  obtain ⟨rfl, hZ, hh⟩ := hP
  have hx := Bd.exec
  have hby := Bd.bytes
  have hml : c.maxLocals = 1 := hml0
  have hown : s.vm.findClass "dev/stratumaudio/BlockSwitchingBlockTypePinLaw" = some m.cls := findClass_of_methodNamed Bd.named
  have hnm := (name_of_methodNamed Bd.named Bd.method).1
  have hret : meth.sig.returnType = some .boolean := Bd.returns
  have hlk : meth.locks = false := Bd.notSynchronized
  have X0 : Stand p l e ({ frames := 0, cells := 0, slots := 0, locals := 0 } : Room) s m #[(.int x0)] below meth c s₁ [] 0 0 := Stand.of_body Bd
  have e0 : s₁.heap = h0 := by rw [← hh, Bd.state]; rfl
  have N0 := Fr.nil n0
  have pre0 : ∀ t, Steps p.tables e below (s₁.setTop (mkF m 0 #[.val (.int x0)] [])) t → Steps p.tables e below (s₁.setTop (entryFrame m #[(.int x0)] 1)) t := fun t k => castTop (ef_3 m x0) k
  have pre1 : ∀ t, Steps p.tables e below (s₁.setTop (mkF m 1 #[.val (.int x0)] [(.int x0)])) t → Steps p.tables e below (s₁.setTop (entryFrame m #[(.int x0)] 1)) t := by
    intro t k
    refine pre0 _ ?_
    show Steps p.tables e below (s₁.setTop (mkF m 0 #[.val (.int x0)] [])) _
    refine XS.iloadN X0.here hx rfl (hb hby d3_0) rfl ?_
    exact k
  obtain ⟨T10, L10, X10, N10, e10, pre10⟩ : ∃ (T' : State) (L' : List Loc), Stand p l e ({ frames := 0, cells := 0, slots := 0, locals := 0 } : Room) s m #[(.int x0)] below meth c T' L' 0 0 ∧ Fr n0 L' ∧ T'.heap = h0 ∧ ∀ t, Steps p.tables e below (T'.setTop (mkF m 14 #[.val (.int x0)] [(.int (f3_j9 x0))])) t → Steps p.tables e below (s₁.setTop (entryFrame m #[(.int x0)] 1)) t := by
    rcases Bool.eq_false_or_eq_true (ifCond.holds .eq x0) with hc2 | hc2
    · have pre11 : ∀ t, Steps p.tables e below (s₁.setTop (mkF m 14 #[.val (.int x0)] [(.int (1 : Int32))])) t → Steps p.tables e below (s₁.setTop (entryFrame m #[(.int x0)] 1)) t := by
        intro t k
        refine pre1 _ ?_
        show Steps p.tables e below (s₁.setTop (mkF m 1 #[.val (.int x0)] [(.int x0)])) _
        refine XS.ifYes X0.here hx rfl (pc0 := 1) (pc' := 9) rfl (hb hby d3_1) rfl hc2 (by decide) (by decide) ?_
        show Steps p.tables e below (s₁.setTop (mkF m 9 #[.val (.int x0)] [])) _
        refine XS.iconst X0.here hx rfl (hb hby d3_9) ?_
        show Steps p.tables e below (s₁.setTop (mkF m 10 #[.val (.int x0)] [(.int (1 : Int32))])) _
        refine XS.goto X0.here hx rfl (pc0 := 10) (pc' := 14) rfl (hb hby d3_10) (by decide) (by decide) ?_
        exact k
      have qj0 : (f3_j9 x0) = (1 : Int32) := if_pos hc2
      refine ⟨s₁, _, X0, N0, e0, fun t k => pre11 _ ?_⟩
      rw [qj0] at k
      exact k
    · have pre3 : ∀ t, Steps p.tables e below (s₁.setTop (mkF m 6 #[.val (.int x0)] [(.int (3 : Int32)), (.int x0)])) t → Steps p.tables e below (s₁.setTop (entryFrame m #[(.int x0)] 1)) t := by
        intro t k
        refine pre1 _ ?_
        show Steps p.tables e below (s₁.setTop (mkF m 1 #[.val (.int x0)] [(.int x0)])) _
        refine XS.ifNo X0.here hx rfl (hb hby d3_1) rfl hc2 ?_
        show Steps p.tables e below (s₁.setTop (mkF m 4 #[.val (.int x0)] [])) _
        refine XS.iloadN X0.here hx rfl (hb hby d3_4) rfl ?_
        show Steps p.tables e below (s₁.setTop (mkF m 5 #[.val (.int x0)] [(.int x0)])) _
        refine XS.iconst X0.here hx rfl (hb hby d3_5) ?_
        exact k
      obtain ⟨T6, L6, X6, N6, e6, pre6⟩ : ∃ (T' : State) (L' : List Loc), Stand p l e ({ frames := 0, cells := 0, slots := 0, locals := 0 } : Room) s m #[(.int x0)] below meth c T' L' 0 0 ∧ Fr n0 L' ∧ T'.heap = h0 ∧ ∀ t, Steps p.tables e below (T'.setTop (mkF m 14 #[.val (.int x0)] [(.int (f3_j5 x0))])) t → Steps p.tables e below (s₁.setTop (entryFrame m #[(.int x0)] 1)) t := by
        rcases Bool.eq_false_or_eq_true (if_icmp.holds .ne x0 (3 : Int32)) with hc4 | hc4
        · have pre7 : ∀ t, Steps p.tables e below (s₁.setTop (mkF m 14 #[.val (.int x0)] [(.int (0 : Int32))])) t → Steps p.tables e below (s₁.setTop (entryFrame m #[(.int x0)] 1)) t := by
            intro t k
            refine pre3 _ ?_
            show Steps p.tables e below (s₁.setTop (mkF m 6 #[.val (.int x0)] [(.int (3 : Int32)), (.int x0)])) _
            refine XS.icmpYes X0.here hx rfl (pc0 := 6) (pc' := 13) rfl (hb hby d3_6) rfl hc4 (by decide) (by decide) ?_
            show Steps p.tables e below (s₁.setTop (mkF m 13 #[.val (.int x0)] [])) _
            refine XS.iconst X0.here hx rfl (hb hby d3_13) ?_
            exact k
          have qj0 : (f3_j5 x0) = (0 : Int32) := if_pos hc4
          refine ⟨s₁, _, X0, N0, e0, fun t k => pre7 _ ?_⟩
          rw [qj0] at k
          exact k
        · have pre8 : ∀ t, Steps p.tables e below (s₁.setTop (mkF m 14 #[.val (.int x0)] [(.int (1 : Int32))])) t → Steps p.tables e below (s₁.setTop (entryFrame m #[(.int x0)] 1)) t := by
            intro t k
            refine pre3 _ ?_
            show Steps p.tables e below (s₁.setTop (mkF m 6 #[.val (.int x0)] [(.int (3 : Int32)), (.int x0)])) _
            refine XS.icmpNo X0.here hx rfl (hb hby d3_6) rfl hc4 ?_
            show Steps p.tables e below (s₁.setTop (mkF m 9 #[.val (.int x0)] [])) _
            refine XS.iconst X0.here hx rfl (hb hby d3_9) ?_
            show Steps p.tables e below (s₁.setTop (mkF m 10 #[.val (.int x0)] [(.int (1 : Int32))])) _
            refine XS.goto X0.here hx rfl (pc0 := 10) (pc' := 14) rfl (hb hby d3_10) (by decide) (by decide) ?_
            exact k
          have qj0 : (f3_j5 x0) = (1 : Int32) := if_neg (own_nt hc4)
          refine ⟨s₁, _, X0, N0, e0, fun t k => pre8 _ ?_⟩
          rw [qj0] at k
          exact k
      have qj0 : (f3_j9 x0) = (f3_j5 x0) := if_neg (own_nt hc2)
      refine ⟨T6, _, X6, N6, e6, fun t k => pre6 _ ?_⟩
      rw [qj0] at k
      exact k
  obtain ⟨fs, hr, hrun, hended, hW, hsame⟩ := X10.leave (v := some (.int (nar .boolean (f3_j9 x0)))) (fun h => by rw [hret] at h; cases h)
  refine ⟨_, _, pre10 _ ?_, hrun, hended, _, _, rfl, ?_, ⟨_, rfl⟩, hW, hsame.mono (by decide) (by decide)⟩
  · show Steps p.tables e below (T10.setTop (mkF m 14 #[.val (.int x0)] [(.int (f3_j9 x0))])) _
    exact retN X10 hx (t := .boolean) hret (by simp) (hb hby d3_14) hr
  · show Q3 Z x0 h0 n0 _ T10.heap _
    rw [e10]
    have rr : f3 x0 = (nar .boolean (f3_j9 x0)) := rfl
    exact ⟨congrArg (fun z => some (Value.int z)) rr.symm, N10, rfl⟩
theorem pd_0 : parseMethodDescriptor "(I)Z" = some ⟨[.int], some .boolean⟩ := by decide +kernel
-- body 2: dev/stratumaudio/BlockSwitchingBlockTypePinLaw.legal:(II)Z
theorem d2_0 : decode method_3_code 0 = .ok (.iload_n 0, 1) := by decide +kernel
theorem d2_1 : decode method_3_code 1 = .ok (.invokestatic 9, 3) := by decide +kernel
theorem d2_4 : decode method_3_code 4 = .ok (.ifCond .eq 18, 3) := by decide +kernel
theorem d2_7 : decode method_3_code 7 = .ok (.iload_n 1, 1) := by decide +kernel
theorem d2_8 : decode method_3_code 8 = .ok (.ifCond .eq 8, 3) := by decide +kernel
theorem d2_11 : decode method_3_code 11 = .ok (.iload_n 1, 1) := by decide +kernel
theorem d2_12 : decode method_3_code 12 = .ok (.iconst 1, 1) := by decide +kernel
theorem d2_13 : decode method_3_code 13 = .ok (.if_icmp .ne 7, 3) := by decide +kernel
theorem d2_16 : decode method_3_code 16 = .ok (.iconst 1, 1) := by decide +kernel
theorem d2_17 : decode method_3_code 17 = .ok (.goto 4, 3) := by decide +kernel
theorem d2_20 : decode method_3_code 20 = .ok (.iconst 0, 1) := by decide +kernel
theorem d2_21 : decode method_3_code 21 = .ok (.ireturn, 1) := by decide +kernel
theorem d2_22 : decode method_3_code 22 = .ok (.iload_n 1, 1) := by decide +kernel
theorem d2_23 : decode method_3_code 23 = .ok (.iconst 2, 1) := by decide +kernel
theorem d2_24 : decode method_3_code 24 = .ok (.if_icmp .eq 8, 3) := by decide +kernel
theorem d2_27 : decode method_3_code 27 = .ok (.iload_n 1, 1) := by decide +kernel
theorem d2_28 : decode method_3_code 28 = .ok (.iconst 3, 1) := by decide +kernel
theorem d2_29 : decode method_3_code 29 = .ok (.if_icmp .ne 7, 3) := by decide +kernel
theorem d2_32 : decode method_3_code 32 = .ok (.iconst 1, 1) := by decide +kernel
theorem d2_33 : decode method_3_code 33 = .ok (.goto 4, 3) := by decide +kernel
theorem d2_36 : decode method_3_code 36 = .ok (.iconst 0, 1) := by decide +kernel
theorem d2_37 : decode method_3_code 37 = .ok (.ireturn, 1) := by decide +kernel
theorem ef_2 (m : MethodId) (x0 : Int32) (x1 : Int32) : entryFrame m #[(.int x0), (.int x1)] 2 = mkF m 0 #[.val (.int x0), .val (.int x1)] [] := by first | (simp [entryFrame, mkF, argsToLocals, Value.category]; done) | rfl
def f2_j8 (x0 : Int32) (x1 : Int32) : Int32 := if if_icmp.holds .ne x1 (3 : Int32) = true then (0 : Int32) else (1 : Int32)
def f2_j12 (x0 : Int32) (x1 : Int32) : Int32 := if if_icmp.holds .eq x1 (2 : Int32) = true then (1 : Int32) else (f2_j8 x0 x1)
def f2_j19 (x0 : Int32) (x1 : Int32) : Int32 := if if_icmp.holds .ne x1 (1 : Int32) = true then (0 : Int32) else (1 : Int32)
def f2_j23 (x0 : Int32) (x1 : Int32) : Int32 := if ifCond.holds .eq x1 = true then (1 : Int32) else (f2_j19 x0 x1)
def f2 (x0 : Int32) (x1 : Int32) : Int32 := (if ifCond.holds .eq (f3 x0) = true then (nar .boolean (f2_j12 x0 x1)) else (nar .boolean (f2_j23 x0 x1)))
def Q2 (Z : State) (x0 : Int32) (x1 : Int32) (h0 : Heap) (n0 : Nat) (v : Option Value) (h : Heap) (L : List Loc) : Prop := v = some (.int (f2 x0 x1)) ∧ Fr n0 L ∧ h = h0
set_option maxRecDepth 65536 in
set_option maxHeartbeats 40000000 in
theorem rm2 (l : Launch) (Z : State) (a0 : Array Value) (hw : ∀ d ∈ tables_1, d.before a0 Z = true) (ws : List Jvm.Cond) (x0 : Int32) (x1 : Int32) (h0 : Heap) (n0 : Nat) (Z0 : n0 ≤ h0.size) :
    MetFree l (⟨"dev/stratumaudio/BlockSwitchingBlockTypePinLaw", "legal", "(II)Z"⟩ : MethodName) (head1 (Jvm.Cond.code (⟨"dev/stratumaudio/BlockSwitchingBlockTypePinLaw", "legal", "(II)Z"⟩ : MethodName) method_3_code 2 (some .boolean) :: ws) ({ frames := 1, cells := 0, slots := 0, locals := 12 } : Room)) (fun a U => a = #[(.int x0), (.int x1)] ∧ Z.Warmed39 U.vm ∧ U.heap = h0) (fun _ _ _ _ _ => True) (fun _ U o U' => ∃ v L, o = .returned v ∧ Q2 Z x0 x1 h0 n0 v U'.heap L ∧ FrameEnd U o U' L ({ frames := 1, cells := 0, slots := 0, locals := 12 } : Room).cells ({ frames := 1, cells := 0, slots := 0, locals := 12 } : Room).slots) := by
  refine MetFree.of_bodySF (plainFor_of_name pn_1) hisR ?_
  intro p e s m args below meth c s₁ Bd hml0 hP hK0
  obtain ⟨rfl, hZ, hh⟩ := hP
  have hx := Bd.exec
  have hby := Bd.bytes
  have hml : c.maxLocals = 2 := hml0
  have hown : s.vm.findClass "dev/stratumaudio/BlockSwitchingBlockTypePinLaw" = some m.cls := findClass_of_methodNamed Bd.named
  have hnm := (name_of_methodNamed Bd.named Bd.method).1
  have hret : meth.sig.returnType = some .boolean := Bd.returns
  have hlk : meth.locks = false := Bd.notSynchronized
  have X0 : Stand p l e ({ frames := 1, cells := 0, slots := 0, locals := 12 } : Room) s m #[(.int x0), (.int x1)] below meth c s₁ [] 0 0 := Stand.of_body Bd
  have e0 : s₁.heap = h0 := by rw [← hh, Bd.state]; rfl
  have N0 := Fr.nil n0
  have pre0 : ∀ t, Steps p.tables e below (s₁.setTop (mkF m 0 #[.val (.int x0), .val (.int x1)] [])) t → Steps p.tables e below (s₁.setTop (entryFrame m #[(.int x0), (.int x1)] 2)) t := fun t k => castTop (ef_2 m x0 x1) k
  obtain ⟨_, _, ⟨T1, L1, k1, n1⟩, -, X1, ⟨Lc1, hQ1, l1, y1, z1⟩, st1⟩ := Jvm.LawKit.callS X0 hx (y := (⟨"dev/stratumaudio/BlockSwitchingBlockTypePinLaw", "isLong", "(I)Z"⟩ : MethodName)) hown (mvT hZ (hw _ (List.mem_of_getElem? (i := 8) rfl))) (mvT hZ (hw _ (List.mem_of_getElem? (i := 9) rfl))) (mvT hZ (hw _ (List.mem_of_getElem? (i := 6) rfl))) (mvT hZ (hw _ (List.mem_of_getElem? (i := 10) rfl))) (by decide) (backOf (W := 0) (rm3 l Z a0 hw [] x0 h0 n0 Z0) hZ (hw _ (List.mem_of_getElem? (i := 10) rfl)) (hw _ (List.mem_of_getElem? (i := 6) rfl)) (by decide) (by decide)) (g := (mkF m 1 #[.val (.int x0), .val (.int x1)] [(.int x0)])) rfl (by rw [hml]; rfl) (argsL := [(.int x0)]) (rest := []) (lenOf pd_0 rfl) rfl (by show 2 * 0 + _ ≤ _; exact Nat.le_of_eq rfl) (hb hby d2_1) (fun _ _ => ⟨rfl, e0, (by decide : 0 + 0 ≤ _), (by decide : 0 + 0 ≤ _)⟩)
  dsimp only [Pt.U, Pt.locs, Pt.cells, Pt.slots] at X1 l1 y1 z1 st1 hQ1
  subst l1 y1 z1
  obtain ⟨rfl, Nq1, e1⟩ := hQ1
  have N1 := Fr.app N0 Nq1
  have pre2 : ∀ t, Steps p.tables e below (T1.setTop (mkF m 4 #[.val (.int x0), .val (.int x1)] [(.int (f3 x0))])) t → Steps p.tables e below (s₁.setTop (entryFrame m #[(.int x0), (.int x1)] 2)) t := by
    intro t k
    refine pre0 _ ?_
    show Steps p.tables e below (s₁.setTop (mkF m 0 #[.val (.int x0), .val (.int x1)] [])) _
    refine XS.iloadN X0.here hx rfl (hb hby d2_0) rfl ?_
    show Steps p.tables e below (s₁.setTop (mkF m 1 #[.val (.int x0), .val (.int x1)] [(.int x0)])) _
    refine st1 _ ?_
    exact k
  rcases Bool.eq_false_or_eq_true (ifCond.holds .eq (f3 x0)) with hc3 | hc3
  · have pre4 : ∀ t, Steps p.tables e below (T1.setTop (mkF m 24 #[.val (.int x0), .val (.int x1)] [(.int (2 : Int32)), (.int x1)])) t → Steps p.tables e below (s₁.setTop (entryFrame m #[(.int x0), (.int x1)] 2)) t := by
      intro t k
      refine pre2 _ ?_
      show Steps p.tables e below (T1.setTop (mkF m 4 #[.val (.int x0), .val (.int x1)] [(.int (f3 x0))])) _
      refine XS.ifYes X1.here hx rfl (pc0 := 4) (pc' := 22) rfl (hb hby d2_4) rfl hc3 (by decide) (by decide) ?_
      show Steps p.tables e below (T1.setTop (mkF m 22 #[.val (.int x0), .val (.int x1)] [])) _
      refine XS.iloadN X1.here hx rfl (hb hby d2_22) rfl ?_
      show Steps p.tables e below (T1.setTop (mkF m 23 #[.val (.int x0), .val (.int x1)] [(.int x1)])) _
      refine XS.iconst X1.here hx rfl (hb hby d2_23) ?_
      exact k
    obtain ⟨T13, L13, X13, N13, e13, pre13⟩ : ∃ (T' : State) (L' : List Loc), Stand p l e ({ frames := 1, cells := 0, slots := 0, locals := 12 } : Room) s m #[(.int x0), (.int x1)] below meth c T' L' 0 0 ∧ Fr n0 L' ∧ T'.heap = h0 ∧ ∀ t, Steps p.tables e below (T'.setTop (mkF m 37 #[.val (.int x0), .val (.int x1)] [(.int (f2_j12 x0 x1))])) t → Steps p.tables e below (s₁.setTop (entryFrame m #[(.int x0), (.int x1)] 2)) t := by
      rcases Bool.eq_false_or_eq_true (if_icmp.holds .eq x1 (2 : Int32)) with hc5 | hc5
      · have pre14 : ∀ t, Steps p.tables e below (T1.setTop (mkF m 37 #[.val (.int x0), .val (.int x1)] [(.int (1 : Int32))])) t → Steps p.tables e below (s₁.setTop (entryFrame m #[(.int x0), (.int x1)] 2)) t := by
          intro t k
          refine pre4 _ ?_
          show Steps p.tables e below (T1.setTop (mkF m 24 #[.val (.int x0), .val (.int x1)] [(.int (2 : Int32)), (.int x1)])) _
          refine XS.icmpYes X1.here hx rfl (pc0 := 24) (pc' := 32) rfl (hb hby d2_24) rfl hc5 (by decide) (by decide) ?_
          show Steps p.tables e below (T1.setTop (mkF m 32 #[.val (.int x0), .val (.int x1)] [])) _
          refine XS.iconst X1.here hx rfl (hb hby d2_32) ?_
          show Steps p.tables e below (T1.setTop (mkF m 33 #[.val (.int x0), .val (.int x1)] [(.int (1 : Int32))])) _
          refine XS.goto X1.here hx rfl (pc0 := 33) (pc' := 37) rfl (hb hby d2_33) (by decide) (by decide) ?_
          exact k
        have qj0 : (f2_j12 x0 x1) = (1 : Int32) := if_pos hc5
        refine ⟨T1, _, X1, N1, e1, fun t k => pre14 _ ?_⟩
        rw [qj0] at k
        exact k
      · have pre6 : ∀ t, Steps p.tables e below (T1.setTop (mkF m 29 #[.val (.int x0), .val (.int x1)] [(.int (3 : Int32)), (.int x1)])) t → Steps p.tables e below (s₁.setTop (entryFrame m #[(.int x0), (.int x1)] 2)) t := by
          intro t k
          refine pre4 _ ?_
          show Steps p.tables e below (T1.setTop (mkF m 24 #[.val (.int x0), .val (.int x1)] [(.int (2 : Int32)), (.int x1)])) _
          refine XS.icmpNo X1.here hx rfl (hb hby d2_24) rfl hc5 ?_
          show Steps p.tables e below (T1.setTop (mkF m 27 #[.val (.int x0), .val (.int x1)] [])) _
          refine XS.iloadN X1.here hx rfl (hb hby d2_27) rfl ?_
          show Steps p.tables e below (T1.setTop (mkF m 28 #[.val (.int x0), .val (.int x1)] [(.int x1)])) _
          refine XS.iconst X1.here hx rfl (hb hby d2_28) ?_
          exact k
        obtain ⟨T9, L9, X9, N9, e9, pre9⟩ : ∃ (T' : State) (L' : List Loc), Stand p l e ({ frames := 1, cells := 0, slots := 0, locals := 12 } : Room) s m #[(.int x0), (.int x1)] below meth c T' L' 0 0 ∧ Fr n0 L' ∧ T'.heap = h0 ∧ ∀ t, Steps p.tables e below (T'.setTop (mkF m 37 #[.val (.int x0), .val (.int x1)] [(.int (f2_j8 x0 x1))])) t → Steps p.tables e below (s₁.setTop (entryFrame m #[(.int x0), (.int x1)] 2)) t := by
          rcases Bool.eq_false_or_eq_true (if_icmp.holds .ne x1 (3 : Int32)) with hc7 | hc7
          · have pre10 : ∀ t, Steps p.tables e below (T1.setTop (mkF m 37 #[.val (.int x0), .val (.int x1)] [(.int (0 : Int32))])) t → Steps p.tables e below (s₁.setTop (entryFrame m #[(.int x0), (.int x1)] 2)) t := by
              intro t k
              refine pre6 _ ?_
              show Steps p.tables e below (T1.setTop (mkF m 29 #[.val (.int x0), .val (.int x1)] [(.int (3 : Int32)), (.int x1)])) _
              refine XS.icmpYes X1.here hx rfl (pc0 := 29) (pc' := 36) rfl (hb hby d2_29) rfl hc7 (by decide) (by decide) ?_
              show Steps p.tables e below (T1.setTop (mkF m 36 #[.val (.int x0), .val (.int x1)] [])) _
              refine XS.iconst X1.here hx rfl (hb hby d2_36) ?_
              exact k
            have qj0 : (f2_j8 x0 x1) = (0 : Int32) := if_pos hc7
            refine ⟨T1, _, X1, N1, e1, fun t k => pre10 _ ?_⟩
            rw [qj0] at k
            exact k
          · have pre11 : ∀ t, Steps p.tables e below (T1.setTop (mkF m 37 #[.val (.int x0), .val (.int x1)] [(.int (1 : Int32))])) t → Steps p.tables e below (s₁.setTop (entryFrame m #[(.int x0), (.int x1)] 2)) t := by
              intro t k
              refine pre6 _ ?_
              show Steps p.tables e below (T1.setTop (mkF m 29 #[.val (.int x0), .val (.int x1)] [(.int (3 : Int32)), (.int x1)])) _
              refine XS.icmpNo X1.here hx rfl (hb hby d2_29) rfl hc7 ?_
              show Steps p.tables e below (T1.setTop (mkF m 32 #[.val (.int x0), .val (.int x1)] [])) _
              refine XS.iconst X1.here hx rfl (hb hby d2_32) ?_
              show Steps p.tables e below (T1.setTop (mkF m 33 #[.val (.int x0), .val (.int x1)] [(.int (1 : Int32))])) _
              refine XS.goto X1.here hx rfl (pc0 := 33) (pc' := 37) rfl (hb hby d2_33) (by decide) (by decide) ?_
              exact k
            have qj0 : (f2_j8 x0 x1) = (1 : Int32) := if_neg (own_nt hc7)
            refine ⟨T1, _, X1, N1, e1, fun t k => pre11 _ ?_⟩
            rw [qj0] at k
            exact k
        have qj0 : (f2_j12 x0 x1) = (f2_j8 x0 x1) := if_neg (own_nt hc5)
        refine ⟨T9, _, X9, N9, e9, fun t k => pre9 _ ?_⟩
        rw [qj0] at k
        exact k
    obtain ⟨fs, hr, hrun, hended, hW, hsame⟩ := X13.leave (v := some (.int (nar .boolean (f2_j12 x0 x1)))) (fun h => by rw [hret] at h; cases h)
    refine ⟨_, _, pre13 _ ?_, hrun, hended, _, _, rfl, ?_, ⟨_, rfl⟩, hW, hsame.mono (by decide) (by decide)⟩
    · show Steps p.tables e below (T13.setTop (mkF m 37 #[.val (.int x0), .val (.int x1)] [(.int (f2_j12 x0 x1))])) _
      exact retN X13 hx (t := .boolean) hret (by simp) (hb hby d2_37) hr
    · show Q2 Z x0 x1 h0 n0 _ T13.heap _
      rw [e13]
      have rr : f2 x0 x1 = (nar .boolean (f2_j12 x0 x1)) := if_pos hc3
      exact ⟨congrArg (fun z => some (Value.int z)) rr.symm, N13, rfl⟩
  · have pre15 : ∀ t, Steps p.tables e below (T1.setTop (mkF m 8 #[.val (.int x0), .val (.int x1)] [(.int x1)])) t → Steps p.tables e below (s₁.setTop (entryFrame m #[(.int x0), (.int x1)] 2)) t := by
      intro t k
      refine pre2 _ ?_
      show Steps p.tables e below (T1.setTop (mkF m 4 #[.val (.int x0), .val (.int x1)] [(.int (f3 x0))])) _
      refine XS.ifNo X1.here hx rfl (hb hby d2_4) rfl hc3 ?_
      show Steps p.tables e below (T1.setTop (mkF m 7 #[.val (.int x0), .val (.int x1)] [])) _
      refine XS.iloadN X1.here hx rfl (hb hby d2_7) rfl ?_
      exact k
    obtain ⟨T24, L24, X24, N24, e24, pre24⟩ : ∃ (T' : State) (L' : List Loc), Stand p l e ({ frames := 1, cells := 0, slots := 0, locals := 12 } : Room) s m #[(.int x0), (.int x1)] below meth c T' L' 0 0 ∧ Fr n0 L' ∧ T'.heap = h0 ∧ ∀ t, Steps p.tables e below (T'.setTop (mkF m 21 #[.val (.int x0), .val (.int x1)] [(.int (f2_j23 x0 x1))])) t → Steps p.tables e below (s₁.setTop (entryFrame m #[(.int x0), (.int x1)] 2)) t := by
      rcases Bool.eq_false_or_eq_true (ifCond.holds .eq x1) with hc16 | hc16
      · have pre25 : ∀ t, Steps p.tables e below (T1.setTop (mkF m 21 #[.val (.int x0), .val (.int x1)] [(.int (1 : Int32))])) t → Steps p.tables e below (s₁.setTop (entryFrame m #[(.int x0), (.int x1)] 2)) t := by
          intro t k
          refine pre15 _ ?_
          show Steps p.tables e below (T1.setTop (mkF m 8 #[.val (.int x0), .val (.int x1)] [(.int x1)])) _
          refine XS.ifYes X1.here hx rfl (pc0 := 8) (pc' := 16) rfl (hb hby d2_8) rfl hc16 (by decide) (by decide) ?_
          show Steps p.tables e below (T1.setTop (mkF m 16 #[.val (.int x0), .val (.int x1)] [])) _
          refine XS.iconst X1.here hx rfl (hb hby d2_16) ?_
          show Steps p.tables e below (T1.setTop (mkF m 17 #[.val (.int x0), .val (.int x1)] [(.int (1 : Int32))])) _
          refine XS.goto X1.here hx rfl (pc0 := 17) (pc' := 21) rfl (hb hby d2_17) (by decide) (by decide) ?_
          exact k
        have qj0 : (f2_j23 x0 x1) = (1 : Int32) := if_pos hc16
        refine ⟨T1, _, X1, N1, e1, fun t k => pre25 _ ?_⟩
        rw [qj0] at k
        exact k
      · have pre17 : ∀ t, Steps p.tables e below (T1.setTop (mkF m 13 #[.val (.int x0), .val (.int x1)] [(.int (1 : Int32)), (.int x1)])) t → Steps p.tables e below (s₁.setTop (entryFrame m #[(.int x0), (.int x1)] 2)) t := by
          intro t k
          refine pre15 _ ?_
          show Steps p.tables e below (T1.setTop (mkF m 8 #[.val (.int x0), .val (.int x1)] [(.int x1)])) _
          refine XS.ifNo X1.here hx rfl (hb hby d2_8) rfl hc16 ?_
          show Steps p.tables e below (T1.setTop (mkF m 11 #[.val (.int x0), .val (.int x1)] [])) _
          refine XS.iloadN X1.here hx rfl (hb hby d2_11) rfl ?_
          show Steps p.tables e below (T1.setTop (mkF m 12 #[.val (.int x0), .val (.int x1)] [(.int x1)])) _
          refine XS.iconst X1.here hx rfl (hb hby d2_12) ?_
          exact k
        obtain ⟨T20, L20, X20, N20, e20, pre20⟩ : ∃ (T' : State) (L' : List Loc), Stand p l e ({ frames := 1, cells := 0, slots := 0, locals := 12 } : Room) s m #[(.int x0), (.int x1)] below meth c T' L' 0 0 ∧ Fr n0 L' ∧ T'.heap = h0 ∧ ∀ t, Steps p.tables e below (T'.setTop (mkF m 21 #[.val (.int x0), .val (.int x1)] [(.int (f2_j19 x0 x1))])) t → Steps p.tables e below (s₁.setTop (entryFrame m #[(.int x0), (.int x1)] 2)) t := by
          rcases Bool.eq_false_or_eq_true (if_icmp.holds .ne x1 (1 : Int32)) with hc18 | hc18
          · have pre21 : ∀ t, Steps p.tables e below (T1.setTop (mkF m 21 #[.val (.int x0), .val (.int x1)] [(.int (0 : Int32))])) t → Steps p.tables e below (s₁.setTop (entryFrame m #[(.int x0), (.int x1)] 2)) t := by
              intro t k
              refine pre17 _ ?_
              show Steps p.tables e below (T1.setTop (mkF m 13 #[.val (.int x0), .val (.int x1)] [(.int (1 : Int32)), (.int x1)])) _
              refine XS.icmpYes X1.here hx rfl (pc0 := 13) (pc' := 20) rfl (hb hby d2_13) rfl hc18 (by decide) (by decide) ?_
              show Steps p.tables e below (T1.setTop (mkF m 20 #[.val (.int x0), .val (.int x1)] [])) _
              refine XS.iconst X1.here hx rfl (hb hby d2_20) ?_
              exact k
            have qj0 : (f2_j19 x0 x1) = (0 : Int32) := if_pos hc18
            refine ⟨T1, _, X1, N1, e1, fun t k => pre21 _ ?_⟩
            rw [qj0] at k
            exact k
          · have pre22 : ∀ t, Steps p.tables e below (T1.setTop (mkF m 21 #[.val (.int x0), .val (.int x1)] [(.int (1 : Int32))])) t → Steps p.tables e below (s₁.setTop (entryFrame m #[(.int x0), (.int x1)] 2)) t := by
              intro t k
              refine pre17 _ ?_
              show Steps p.tables e below (T1.setTop (mkF m 13 #[.val (.int x0), .val (.int x1)] [(.int (1 : Int32)), (.int x1)])) _
              refine XS.icmpNo X1.here hx rfl (hb hby d2_13) rfl hc18 ?_
              show Steps p.tables e below (T1.setTop (mkF m 16 #[.val (.int x0), .val (.int x1)] [])) _
              refine XS.iconst X1.here hx rfl (hb hby d2_16) ?_
              show Steps p.tables e below (T1.setTop (mkF m 17 #[.val (.int x0), .val (.int x1)] [(.int (1 : Int32))])) _
              refine XS.goto X1.here hx rfl (pc0 := 17) (pc' := 21) rfl (hb hby d2_17) (by decide) (by decide) ?_
              exact k
            have qj0 : (f2_j19 x0 x1) = (1 : Int32) := if_neg (own_nt hc18)
            refine ⟨T1, _, X1, N1, e1, fun t k => pre22 _ ?_⟩
            rw [qj0] at k
            exact k
        have qj0 : (f2_j23 x0 x1) = (f2_j19 x0 x1) := if_neg (own_nt hc16)
        refine ⟨T20, _, X20, N20, e20, fun t k => pre20 _ ?_⟩
        rw [qj0] at k
        exact k
    obtain ⟨fs, hr, hrun, hended, hW, hsame⟩ := X24.leave (v := some (.int (nar .boolean (f2_j23 x0 x1)))) (fun h => by rw [hret] at h; cases h)
    refine ⟨_, _, pre24 _ ?_, hrun, hended, _, _, rfl, ?_, ⟨_, rfl⟩, hW, hsame.mono (by decide) (by decide)⟩
    · show Steps p.tables e below (T24.setTop (mkF m 21 #[.val (.int x0), .val (.int x1)] [(.int (f2_j23 x0 x1))])) _
      exact retN X24 hx (t := .boolean) hret (by simp) (hb hby d2_21) hr
    · show Q2 Z x0 x1 h0 n0 _ T24.heap _
      rw [e24]
      have rr : f2 x0 x1 = (nar .boolean (f2_j23 x0 x1)) := if_neg (own_nt hc3)
      exact ⟨congrArg (fun z => some (Value.int z)) rr.symm, N24, rfl⟩
theorem pd_1 : parseMethodDescriptor "(IZZ)I" = some ⟨[.int, .boolean, .boolean], some .int⟩ := by decide +kernel
theorem pd_2 : parseMethodDescriptor "(II)Z" = some ⟨[.int, .int], some .boolean⟩ := by decide +kernel
-- body 0: dev/stratumaudio/BlockSwitchingBlockTypePinLaw.law:(II)Z
theorem ef_0 (m : MethodId) (x0 : Int32) (x1 : Int32) : entryFrame m #[(.int x0), (.int x1)] maxLocals = mkF m 0 #[.val (.int x0), .val (.int x1), .unset, .unset, .unset, .unset, .unset, .unset, .unset, .unset] [] := by first | (simp [entryFrame, mkF, argsToLocals, Value.category, maxLocals]; done) | rfl
def f0_v1 (x0 : Int32) (x1 : Int32) : Int32 := (x0 &&& (3 : Int32))
def f0_j4 (x0 : Int32) (x1 : Int32) : Int32 := if ifCond.holds .eq (x1 &&& (1 : Int32)) = true then (0 : Int32) else (1 : Int32)
def f0_j10 (x0 : Int32) (x1 : Int32) : Int32 := if ifCond.holds .eq (x1 &&& (2 : Int32)) = true then (0 : Int32) else (1 : Int32)
def f0_j16 (x0 : Int32) (x1 : Int32) : Int32 := if ifCond.holds .eq (x1 &&& (4 : Int32)) = true then (0 : Int32) else (1 : Int32)
def f0_v21 (x0 : Int32) (x1 : Int32) : Int32 := (f1 (f0_v1 x0 x1) (f0_j4 x0 x1) (f0_j10 x0 x1))
def f0_j26 (x0 : Int32) (x1 : Int32) : Int32 := if ifCond.holds .eq (f0_j10 x0 x1) = true then (0 : Int32) else (1 : Int32)
def f0_j36 (x0 : Int32) (x1 : Int32) : Int32 := if ifCond.holds .eq (f0_j10 x0 x1) = true then (3 : Int32) else (2 : Int32)
def f0_j40 (x0 : Int32) (x1 : Int32) : Int32 := if ifCond.holds .ne (f0_j4 x0 x1) = true then (2 : Int32) else (f0_j36 x0 x1)
def f0_j45 (x0 : Int32) (x1 : Int32) : Int32 := if ifCond.holds .eq (f0_j10 x0 x1) = true then (0 : Int32) else (1 : Int32)
def f0_j49 (x0 : Int32) (x1 : Int32) : Int32 := if if_icmp.holds .ne (f0_v1 x0 x1) (3 : Int32) = true then (f0_j40 x0 x1) else (f0_j45 x0 x1)
def f0_j53 (x0 : Int32) (x1 : Int32) : Int32 := if ifCond.holds .eq (f0_v1 x0 x1) = true then (f0_j26 x0 x1) else (f0_j49 x0 x1)
def f0_v57 (x0 : Int32) (x1 : Int32) : Int32 := (f1 (f0_v21 x0 x1) (f0_j10 x0 x1) (f0_j16 x0 x1))
def f0_j62 (x0 : Int32) (x1 : Int32) : Int32 := if if_icmp.holds .ne (f0_v57 x0 x1) (2 : Int32) = true then (0 : Int32) else (1 : Int32)
def f0_j66 (x0 : Int32) (x1 : Int32) : Int32 := if ifCond.holds .eq (f0_j10 x0 x1) = true then (1 : Int32) else (f0_j62 x0 x1)
def f0_j79 (x0 : Int32) (x1 : Int32) : Int32 := if ifCond.holds .eq (f0_j66 x0 x1) = true then (0 : Int32) else (1 : Int32)
def f0_j83 (x0 : Int32) (x1 : Int32) : Int32 := if ifCond.holds .eq (f2 (f0_v21 x0 x1) (f0_v57 x0 x1)) = true then (0 : Int32) else (f0_j79 x0 x1)
def f0_j86 (x0 : Int32) (x1 : Int32) : Int32 := if ifCond.holds .eq (f2 (f0_v1 x0 x1) (f0_v21 x0 x1)) = true then (0 : Int32) else (f0_j83 x0 x1)
def f0_j89 (x0 : Int32) (x1 : Int32) : Int32 := if if_icmp.holds .ne (f0_v21 x0 x1) (f0_j53 x0 x1) = true then (0 : Int32) else (f0_j86 x0 x1)
def f0 (x0 : Int32) (x1 : Int32) : Int32 := (nar .boolean (f0_j89 x0 x1))
def Q0 (Z : State) (x0 : Int32) (x1 : Int32) (h0 : Heap) (n0 : Nat) (v : Option Value) (h : Heap) (L : List Loc) : Prop := v = some (.int (f0 x0 x1)) ∧ Fr n0 L
set_option maxRecDepth 65536 in
set_option maxHeartbeats 40000000 in
theorem rm0 (l : Launch) (Z : State) (a0 : Array Value) (hw : ∀ d ∈ tables_1, d.before a0 Z = true) (ws : List Jvm.Cond) (x0 : Int32) (x1 : Int32) (h0 : Heap) (n0 : Nat) (Z0 : n0 ≤ h0.size) :
    MetFree l x (head1 (Jvm.Cond.code x code maxLocals ret :: ws) room_1) (fun a U => a = #[(.int x0), (.int x1)] ∧ Z.Warmed39 U.vm ∧ U.heap = h0) (fun _ _ _ _ _ => True) (fun _ U o U' => ∃ v L, o = .returned v ∧ Q0 Z x0 x1 h0 n0 v U'.heap L ∧ FrameEnd U o U' L 0 0) := by
  refine MetFree.of_bodySF (plainFor_of_name pn_1) hisR ?_
  intro p e s m args below meth c s₁ Bd hml0 hP hK0
  obtain ⟨rfl, hZ, hh⟩ := hP
  have hx := Bd.exec
  have hby := Bd.bytes
  have hml : c.maxLocals = 10 := hml0
  have hown : s.vm.findClass "dev/stratumaudio/BlockSwitchingBlockTypePinLaw" = some m.cls := findClass_of_methodNamed Bd.named
  have hnm := (name_of_methodNamed Bd.named Bd.method).1
  have hret : meth.sig.returnType = ret := Bd.returns
  have hlk : meth.locks = false := Bd.notSynchronized
  have X0 : Stand p l e room_1 s m #[(.int x0), (.int x1)] below meth c s₁ [] 0 0 := Stand.of_body Bd
  have e0 : s₁.heap = h0 := by rw [← hh, Bd.state]; rfl
  have N0 := Fr.nil n0
  have pre0 : ∀ t, Steps p.tables e below (s₁.setTop (mkF m 0 #[.val (.int x0), .val (.int x1), .unset, .unset, .unset, .unset, .unset, .unset, .unset, .unset] [])) t → Steps p.tables e below (s₁.setTop (entryFrame m #[(.int x0), (.int x1)] maxLocals)) t := fun t k => castTop (ef_0 m x0 x1) k
  have pre2 : ∀ t, Steps p.tables e below (s₁.setTop (mkF m 7 #[.val (.int x0), .val (.int x1), .val (.int (f0_v1 x0 x1)), .unset, .unset, .unset, .unset, .unset, .unset, .unset] [(.int (x1 &&& (1 : Int32)))])) t → Steps p.tables e below (s₁.setTop (entryFrame m #[(.int x0), (.int x1)] maxLocals)) t := by
    intro t k
    refine pre0 _ ?_
    show Steps p.tables e below (s₁.setTop (mkF m 0 #[.val (.int x0), .val (.int x1), .unset, .unset, .unset, .unset, .unset, .unset, .unset, .unset] [])) _
    refine XS.iloadN X0.here hx rfl (hb hby at_0) rfl ?_
    show Steps p.tables e below (s₁.setTop (mkF m 1 #[.val (.int x0), .val (.int x1), .unset, .unset, .unset, .unset, .unset, .unset, .unset, .unset] [(.int x0)])) _
    refine XS.iconst X0.here hx rfl (hb hby at_1) ?_
    show Steps p.tables e below (s₁.setTop (mkF m 2 #[.val (.int x0), .val (.int x1), .unset, .unset, .unset, .unset, .unset, .unset, .unset, .unset] [(.int (3 : Int32)), (.int x0)])) _
    refine XS.iand X0.here hx rfl (hb hby at_2) rfl ?_
    show Steps p.tables e below (s₁.setTop (mkF m 3 #[.val (.int x0), .val (.int x1), .unset, .unset, .unset, .unset, .unset, .unset, .unset, .unset] [(.int (x0 &&& (3 : Int32)))])) _
    refine XS.istoreN X0.here hx rfl (hb hby at_3) rfl (l' := #[.val (.int x0), .val (.int x1), .val (.int (f0_v1 x0 x1)), .unset, .unset, .unset, .unset, .unset, .unset, .unset]) rfl ?_
    show Steps p.tables e below (s₁.setTop (mkF m 4 #[.val (.int x0), .val (.int x1), .val (.int (f0_v1 x0 x1)), .unset, .unset, .unset, .unset, .unset, .unset, .unset] [])) _
    refine XS.iloadN X0.here hx rfl (hb hby at_4) rfl ?_
    show Steps p.tables e below (s₁.setTop (mkF m 5 #[.val (.int x0), .val (.int x1), .val (.int (f0_v1 x0 x1)), .unset, .unset, .unset, .unset, .unset, .unset, .unset] [(.int x1)])) _
    refine XS.iconst X0.here hx rfl (hb hby at_5) ?_
    show Steps p.tables e below (s₁.setTop (mkF m 6 #[.val (.int x0), .val (.int x1), .val (.int (f0_v1 x0 x1)), .unset, .unset, .unset, .unset, .unset, .unset, .unset] [(.int (1 : Int32)), (.int x1)])) _
    refine XS.iand X0.here hx rfl (hb hby at_6) rfl ?_
    exact k
  obtain ⟨T5, L5, X5, N5, e5, pre5⟩ : ∃ (T' : State) (L' : List Loc), Stand p l e room_1 s m #[(.int x0), (.int x1)] below meth c T' L' 0 0 ∧ Fr n0 L' ∧ T'.heap = h0 ∧ ∀ t, Steps p.tables e below (T'.setTop (mkF m 15 #[.val (.int x0), .val (.int x1), .val (.int (f0_v1 x0 x1)), .unset, .unset, .unset, .unset, .unset, .unset, .unset] [(.int (f0_j4 x0 x1))])) t → Steps p.tables e below (s₁.setTop (entryFrame m #[(.int x0), (.int x1)] maxLocals)) t := by
    rcases Bool.eq_false_or_eq_true (ifCond.holds .eq (x1 &&& (1 : Int32))) with hc3 | hc3
    · have pre6 : ∀ t, Steps p.tables e below (s₁.setTop (mkF m 15 #[.val (.int x0), .val (.int x1), .val (.int (f0_v1 x0 x1)), .unset, .unset, .unset, .unset, .unset, .unset, .unset] [(.int (0 : Int32))])) t → Steps p.tables e below (s₁.setTop (entryFrame m #[(.int x0), (.int x1)] maxLocals)) t := by
        intro t k
        refine pre2 _ ?_
        show Steps p.tables e below (s₁.setTop (mkF m 7 #[.val (.int x0), .val (.int x1), .val (.int (f0_v1 x0 x1)), .unset, .unset, .unset, .unset, .unset, .unset, .unset] [(.int (x1 &&& (1 : Int32)))])) _
        refine XS.ifYes X0.here hx rfl (pc0 := 7) (pc' := 14) rfl (hb hby at_7) rfl hc3 (by decide) (by decide) ?_
        show Steps p.tables e below (s₁.setTop (mkF m 14 #[.val (.int x0), .val (.int x1), .val (.int (f0_v1 x0 x1)), .unset, .unset, .unset, .unset, .unset, .unset, .unset] [])) _
        refine XS.iconst X0.here hx rfl (hb hby at_14) ?_
        exact k
      have qj0 : (f0_j4 x0 x1) = (0 : Int32) := if_pos hc3
      refine ⟨s₁, _, X0, N0, e0, fun t k => pre6 _ ?_⟩
      rw [qj0] at k
      exact k
    · have pre7 : ∀ t, Steps p.tables e below (s₁.setTop (mkF m 15 #[.val (.int x0), .val (.int x1), .val (.int (f0_v1 x0 x1)), .unset, .unset, .unset, .unset, .unset, .unset, .unset] [(.int (1 : Int32))])) t → Steps p.tables e below (s₁.setTop (entryFrame m #[(.int x0), (.int x1)] maxLocals)) t := by
        intro t k
        refine pre2 _ ?_
        show Steps p.tables e below (s₁.setTop (mkF m 7 #[.val (.int x0), .val (.int x1), .val (.int (f0_v1 x0 x1)), .unset, .unset, .unset, .unset, .unset, .unset, .unset] [(.int (x1 &&& (1 : Int32)))])) _
        refine XS.ifNo X0.here hx rfl (hb hby at_7) rfl hc3 ?_
        show Steps p.tables e below (s₁.setTop (mkF m 10 #[.val (.int x0), .val (.int x1), .val (.int (f0_v1 x0 x1)), .unset, .unset, .unset, .unset, .unset, .unset, .unset] [])) _
        refine XS.iconst X0.here hx rfl (hb hby at_10) ?_
        show Steps p.tables e below (s₁.setTop (mkF m 11 #[.val (.int x0), .val (.int x1), .val (.int (f0_v1 x0 x1)), .unset, .unset, .unset, .unset, .unset, .unset, .unset] [(.int (1 : Int32))])) _
        refine XS.goto X0.here hx rfl (pc0 := 11) (pc' := 15) rfl (hb hby at_11) (by decide) (by decide) ?_
        exact k
      have qj0 : (f0_j4 x0 x1) = (1 : Int32) := if_neg (own_nt hc3)
      refine ⟨s₁, _, X0, N0, e0, fun t k => pre7 _ ?_⟩
      rw [qj0] at k
      exact k
  have pre8 : ∀ t, Steps p.tables e below (T5.setTop (mkF m 19 #[.val (.int x0), .val (.int x1), .val (.int (f0_v1 x0 x1)), .val (.int (f0_j4 x0 x1)), .unset, .unset, .unset, .unset, .unset, .unset] [(.int (x1 &&& (2 : Int32)))])) t → Steps p.tables e below (s₁.setTop (entryFrame m #[(.int x0), (.int x1)] maxLocals)) t := by
    intro t k
    refine pre5 _ ?_
    show Steps p.tables e below (T5.setTop (mkF m 15 #[.val (.int x0), .val (.int x1), .val (.int (f0_v1 x0 x1)), .unset, .unset, .unset, .unset, .unset, .unset, .unset] [(.int (f0_j4 x0 x1))])) _
    refine XS.istoreN X5.here hx rfl (hb hby at_15) rfl (l' := #[.val (.int x0), .val (.int x1), .val (.int (f0_v1 x0 x1)), .val (.int (f0_j4 x0 x1)), .unset, .unset, .unset, .unset, .unset, .unset]) rfl ?_
    show Steps p.tables e below (T5.setTop (mkF m 16 #[.val (.int x0), .val (.int x1), .val (.int (f0_v1 x0 x1)), .val (.int (f0_j4 x0 x1)), .unset, .unset, .unset, .unset, .unset, .unset] [])) _
    refine XS.iloadN X5.here hx rfl (hb hby at_16) rfl ?_
    show Steps p.tables e below (T5.setTop (mkF m 17 #[.val (.int x0), .val (.int x1), .val (.int (f0_v1 x0 x1)), .val (.int (f0_j4 x0 x1)), .unset, .unset, .unset, .unset, .unset, .unset] [(.int x1)])) _
    refine XS.iconst X5.here hx rfl (hb hby at_17) ?_
    show Steps p.tables e below (T5.setTop (mkF m 18 #[.val (.int x0), .val (.int x1), .val (.int (f0_v1 x0 x1)), .val (.int (f0_j4 x0 x1)), .unset, .unset, .unset, .unset, .unset, .unset] [(.int (2 : Int32)), (.int x1)])) _
    refine XS.iand X5.here hx rfl (hb hby at_18) rfl ?_
    exact k
  obtain ⟨T11, L11, X11, N11, e11, pre11⟩ : ∃ (T' : State) (L' : List Loc), Stand p l e room_1 s m #[(.int x0), (.int x1)] below meth c T' L' 0 0 ∧ Fr n0 L' ∧ T'.heap = h0 ∧ ∀ t, Steps p.tables e below (T'.setTop (mkF m 27 #[.val (.int x0), .val (.int x1), .val (.int (f0_v1 x0 x1)), .val (.int (f0_j4 x0 x1)), .unset, .unset, .unset, .unset, .unset, .unset] [(.int (f0_j10 x0 x1))])) t → Steps p.tables e below (s₁.setTop (entryFrame m #[(.int x0), (.int x1)] maxLocals)) t := by
    rcases Bool.eq_false_or_eq_true (ifCond.holds .eq (x1 &&& (2 : Int32))) with hc9 | hc9
    · have pre12 : ∀ t, Steps p.tables e below (T5.setTop (mkF m 27 #[.val (.int x0), .val (.int x1), .val (.int (f0_v1 x0 x1)), .val (.int (f0_j4 x0 x1)), .unset, .unset, .unset, .unset, .unset, .unset] [(.int (0 : Int32))])) t → Steps p.tables e below (s₁.setTop (entryFrame m #[(.int x0), (.int x1)] maxLocals)) t := by
        intro t k
        refine pre8 _ ?_
        show Steps p.tables e below (T5.setTop (mkF m 19 #[.val (.int x0), .val (.int x1), .val (.int (f0_v1 x0 x1)), .val (.int (f0_j4 x0 x1)), .unset, .unset, .unset, .unset, .unset, .unset] [(.int (x1 &&& (2 : Int32)))])) _
        refine XS.ifYes X5.here hx rfl (pc0 := 19) (pc' := 26) rfl (hb hby at_19) rfl hc9 (by decide) (by decide) ?_
        show Steps p.tables e below (T5.setTop (mkF m 26 #[.val (.int x0), .val (.int x1), .val (.int (f0_v1 x0 x1)), .val (.int (f0_j4 x0 x1)), .unset, .unset, .unset, .unset, .unset, .unset] [])) _
        refine XS.iconst X5.here hx rfl (hb hby at_26) ?_
        exact k
      have qj0 : (f0_j10 x0 x1) = (0 : Int32) := if_pos hc9
      refine ⟨T5, _, X5, N5, e5, fun t k => pre12 _ ?_⟩
      rw [qj0] at k
      exact k
    · have pre13 : ∀ t, Steps p.tables e below (T5.setTop (mkF m 27 #[.val (.int x0), .val (.int x1), .val (.int (f0_v1 x0 x1)), .val (.int (f0_j4 x0 x1)), .unset, .unset, .unset, .unset, .unset, .unset] [(.int (1 : Int32))])) t → Steps p.tables e below (s₁.setTop (entryFrame m #[(.int x0), (.int x1)] maxLocals)) t := by
        intro t k
        refine pre8 _ ?_
        show Steps p.tables e below (T5.setTop (mkF m 19 #[.val (.int x0), .val (.int x1), .val (.int (f0_v1 x0 x1)), .val (.int (f0_j4 x0 x1)), .unset, .unset, .unset, .unset, .unset, .unset] [(.int (x1 &&& (2 : Int32)))])) _
        refine XS.ifNo X5.here hx rfl (hb hby at_19) rfl hc9 ?_
        show Steps p.tables e below (T5.setTop (mkF m 22 #[.val (.int x0), .val (.int x1), .val (.int (f0_v1 x0 x1)), .val (.int (f0_j4 x0 x1)), .unset, .unset, .unset, .unset, .unset, .unset] [])) _
        refine XS.iconst X5.here hx rfl (hb hby at_22) ?_
        show Steps p.tables e below (T5.setTop (mkF m 23 #[.val (.int x0), .val (.int x1), .val (.int (f0_v1 x0 x1)), .val (.int (f0_j4 x0 x1)), .unset, .unset, .unset, .unset, .unset, .unset] [(.int (1 : Int32))])) _
        refine XS.goto X5.here hx rfl (pc0 := 23) (pc' := 27) rfl (hb hby at_23) (by decide) (by decide) ?_
        exact k
      have qj0 : (f0_j10 x0 x1) = (1 : Int32) := if_neg (own_nt hc9)
      refine ⟨T5, _, X5, N5, e5, fun t k => pre13 _ ?_⟩
      rw [qj0] at k
      exact k
  have pre14 : ∀ t, Steps p.tables e below (T11.setTop (mkF m 32 #[.val (.int x0), .val (.int x1), .val (.int (f0_v1 x0 x1)), .val (.int (f0_j4 x0 x1)), .val (.int (f0_j10 x0 x1)), .unset, .unset, .unset, .unset, .unset] [(.int (x1 &&& (4 : Int32)))])) t → Steps p.tables e below (s₁.setTop (entryFrame m #[(.int x0), (.int x1)] maxLocals)) t := by
    intro t k
    refine pre11 _ ?_
    show Steps p.tables e below (T11.setTop (mkF m 27 #[.val (.int x0), .val (.int x1), .val (.int (f0_v1 x0 x1)), .val (.int (f0_j4 x0 x1)), .unset, .unset, .unset, .unset, .unset, .unset] [(.int (f0_j10 x0 x1))])) _
    refine XS.istore X11.here hx rfl (hb hby at_27) rfl (l' := #[.val (.int x0), .val (.int x1), .val (.int (f0_v1 x0 x1)), .val (.int (f0_j4 x0 x1)), .val (.int (f0_j10 x0 x1)), .unset, .unset, .unset, .unset, .unset]) rfl ?_
    show Steps p.tables e below (T11.setTop (mkF m 29 #[.val (.int x0), .val (.int x1), .val (.int (f0_v1 x0 x1)), .val (.int (f0_j4 x0 x1)), .val (.int (f0_j10 x0 x1)), .unset, .unset, .unset, .unset, .unset] [])) _
    refine XS.iloadN X11.here hx rfl (hb hby at_29) rfl ?_
    show Steps p.tables e below (T11.setTop (mkF m 30 #[.val (.int x0), .val (.int x1), .val (.int (f0_v1 x0 x1)), .val (.int (f0_j4 x0 x1)), .val (.int (f0_j10 x0 x1)), .unset, .unset, .unset, .unset, .unset] [(.int x1)])) _
    refine XS.iconst X11.here hx rfl (hb hby at_30) ?_
    show Steps p.tables e below (T11.setTop (mkF m 31 #[.val (.int x0), .val (.int x1), .val (.int (f0_v1 x0 x1)), .val (.int (f0_j4 x0 x1)), .val (.int (f0_j10 x0 x1)), .unset, .unset, .unset, .unset, .unset] [(.int (4 : Int32)), (.int x1)])) _
    refine XS.iand X11.here hx rfl (hb hby at_31) rfl ?_
    exact k
  obtain ⟨T17, L17, X17, N17, e17, pre17⟩ : ∃ (T' : State) (L' : List Loc), Stand p l e room_1 s m #[(.int x0), (.int x1)] below meth c T' L' 0 0 ∧ Fr n0 L' ∧ T'.heap = h0 ∧ ∀ t, Steps p.tables e below (T'.setTop (mkF m 40 #[.val (.int x0), .val (.int x1), .val (.int (f0_v1 x0 x1)), .val (.int (f0_j4 x0 x1)), .val (.int (f0_j10 x0 x1)), .unset, .unset, .unset, .unset, .unset] [(.int (f0_j16 x0 x1))])) t → Steps p.tables e below (s₁.setTop (entryFrame m #[(.int x0), (.int x1)] maxLocals)) t := by
    rcases Bool.eq_false_or_eq_true (ifCond.holds .eq (x1 &&& (4 : Int32))) with hc15 | hc15
    · have pre18 : ∀ t, Steps p.tables e below (T11.setTop (mkF m 40 #[.val (.int x0), .val (.int x1), .val (.int (f0_v1 x0 x1)), .val (.int (f0_j4 x0 x1)), .val (.int (f0_j10 x0 x1)), .unset, .unset, .unset, .unset, .unset] [(.int (0 : Int32))])) t → Steps p.tables e below (s₁.setTop (entryFrame m #[(.int x0), (.int x1)] maxLocals)) t := by
        intro t k
        refine pre14 _ ?_
        show Steps p.tables e below (T11.setTop (mkF m 32 #[.val (.int x0), .val (.int x1), .val (.int (f0_v1 x0 x1)), .val (.int (f0_j4 x0 x1)), .val (.int (f0_j10 x0 x1)), .unset, .unset, .unset, .unset, .unset] [(.int (x1 &&& (4 : Int32)))])) _
        refine XS.ifYes X11.here hx rfl (pc0 := 32) (pc' := 39) rfl (hb hby at_32) rfl hc15 (by decide) (by decide) ?_
        show Steps p.tables e below (T11.setTop (mkF m 39 #[.val (.int x0), .val (.int x1), .val (.int (f0_v1 x0 x1)), .val (.int (f0_j4 x0 x1)), .val (.int (f0_j10 x0 x1)), .unset, .unset, .unset, .unset, .unset] [])) _
        refine XS.iconst X11.here hx rfl (hb hby at_39) ?_
        exact k
      have qj0 : (f0_j16 x0 x1) = (0 : Int32) := if_pos hc15
      refine ⟨T11, _, X11, N11, e11, fun t k => pre18 _ ?_⟩
      rw [qj0] at k
      exact k
    · have pre19 : ∀ t, Steps p.tables e below (T11.setTop (mkF m 40 #[.val (.int x0), .val (.int x1), .val (.int (f0_v1 x0 x1)), .val (.int (f0_j4 x0 x1)), .val (.int (f0_j10 x0 x1)), .unset, .unset, .unset, .unset, .unset] [(.int (1 : Int32))])) t → Steps p.tables e below (s₁.setTop (entryFrame m #[(.int x0), (.int x1)] maxLocals)) t := by
        intro t k
        refine pre14 _ ?_
        show Steps p.tables e below (T11.setTop (mkF m 32 #[.val (.int x0), .val (.int x1), .val (.int (f0_v1 x0 x1)), .val (.int (f0_j4 x0 x1)), .val (.int (f0_j10 x0 x1)), .unset, .unset, .unset, .unset, .unset] [(.int (x1 &&& (4 : Int32)))])) _
        refine XS.ifNo X11.here hx rfl (hb hby at_32) rfl hc15 ?_
        show Steps p.tables e below (T11.setTop (mkF m 35 #[.val (.int x0), .val (.int x1), .val (.int (f0_v1 x0 x1)), .val (.int (f0_j4 x0 x1)), .val (.int (f0_j10 x0 x1)), .unset, .unset, .unset, .unset, .unset] [])) _
        refine XS.iconst X11.here hx rfl (hb hby at_35) ?_
        show Steps p.tables e below (T11.setTop (mkF m 36 #[.val (.int x0), .val (.int x1), .val (.int (f0_v1 x0 x1)), .val (.int (f0_j4 x0 x1)), .val (.int (f0_j10 x0 x1)), .unset, .unset, .unset, .unset, .unset] [(.int (1 : Int32))])) _
        refine XS.goto X11.here hx rfl (pc0 := 36) (pc' := 40) rfl (hb hby at_36) (by decide) (by decide) ?_
        exact k
      have qj0 : (f0_j16 x0 x1) = (1 : Int32) := if_neg (own_nt hc15)
      refine ⟨T11, _, X11, N11, e11, fun t k => pre19 _ ?_⟩
      rw [qj0] at k
      exact k
  obtain ⟨_, _, ⟨T20, L20, k20, n20⟩, -, X20, ⟨Lc20, hQ20, l20, y20, z20⟩, st20⟩ := Jvm.LawKit.callS X17 hx (y := (⟨"dev/stratumaudio/BlockSwitching", "blockType", "(IZZ)I"⟩ : MethodName)) hown (mvT hZ (hw _ (List.mem_of_getElem? (i := 0) rfl))) (mvT hZ (hw _ (List.mem_of_getElem? (i := 1) rfl))) (mvT hZ (hw _ (List.mem_of_getElem? (i := 2) rfl))) (mvT hZ (hw _ (List.mem_of_getElem? (i := 3) rfl))) (by decide) (backOf (W := 0) (rm1 l Z a0 hw [] (f0_v1 x0 x1) (f0_j4 x0 x1) (f0_j10 x0 x1) h0 n0 Z0) hZ (hw _ (List.mem_of_getElem? (i := 3) rfl)) (hw _ (List.mem_of_getElem? (i := 2) rfl)) (by decide) (by decide)) (g := (mkF m 46 #[.val (.int x0), .val (.int x1), .val (.int (f0_v1 x0 x1)), .val (.int (f0_j4 x0 x1)), .val (.int (f0_j10 x0 x1)), .val (.int (f0_j16 x0 x1)), .unset, .unset, .unset, .unset] [(.int (f0_j10 x0 x1)), (.int (f0_j4 x0 x1)), (.int (f0_v1 x0 x1))])) rfl (by rw [hml]; rfl) (argsL := [(.int (f0_v1 x0 x1)), (.int (f0_j4 x0 x1)), (.int (f0_j10 x0 x1))]) (rest := []) (lenOf pd_1 rfl) rfl (by show 2 * 0 + _ ≤ _; exact Nat.le_of_eq rfl) (hb hby at_46) (fun _ _ => ⟨rfl, e17, (by decide : 0 + 0 ≤ _), (by decide : 0 + 0 ≤ _)⟩)
  dsimp only [Pt.U, Pt.locs, Pt.cells, Pt.slots] at X20 l20 y20 z20 st20 hQ20
  subst l20 y20 z20
  obtain ⟨rfl, Nq20, e20⟩ := hQ20
  have N20 := Fr.app N17 Nq20
  have pre22 : ∀ t, Steps p.tables e below (T20.setTop (mkF m 52 #[.val (.int x0), .val (.int x1), .val (.int (f0_v1 x0 x1)), .val (.int (f0_j4 x0 x1)), .val (.int (f0_j10 x0 x1)), .val (.int (f0_j16 x0 x1)), .val (.int (f0_v21 x0 x1)), .unset, .unset, .unset] [(.int (f0_v1 x0 x1))])) t → Steps p.tables e below (s₁.setTop (entryFrame m #[(.int x0), (.int x1)] maxLocals)) t := by
    intro t k
    refine pre17 _ ?_
    show Steps p.tables e below (T17.setTop (mkF m 40 #[.val (.int x0), .val (.int x1), .val (.int (f0_v1 x0 x1)), .val (.int (f0_j4 x0 x1)), .val (.int (f0_j10 x0 x1)), .unset, .unset, .unset, .unset, .unset] [(.int (f0_j16 x0 x1))])) _
    refine XS.istore X17.here hx rfl (hb hby at_40) rfl (l' := #[.val (.int x0), .val (.int x1), .val (.int (f0_v1 x0 x1)), .val (.int (f0_j4 x0 x1)), .val (.int (f0_j10 x0 x1)), .val (.int (f0_j16 x0 x1)), .unset, .unset, .unset, .unset]) rfl ?_
    show Steps p.tables e below (T17.setTop (mkF m 42 #[.val (.int x0), .val (.int x1), .val (.int (f0_v1 x0 x1)), .val (.int (f0_j4 x0 x1)), .val (.int (f0_j10 x0 x1)), .val (.int (f0_j16 x0 x1)), .unset, .unset, .unset, .unset] [])) _
    refine XS.iloadN X17.here hx rfl (hb hby at_42) rfl ?_
    show Steps p.tables e below (T17.setTop (mkF m 43 #[.val (.int x0), .val (.int x1), .val (.int (f0_v1 x0 x1)), .val (.int (f0_j4 x0 x1)), .val (.int (f0_j10 x0 x1)), .val (.int (f0_j16 x0 x1)), .unset, .unset, .unset, .unset] [(.int (f0_v1 x0 x1))])) _
    refine XS.iloadN X17.here hx rfl (hb hby at_43) rfl ?_
    show Steps p.tables e below (T17.setTop (mkF m 44 #[.val (.int x0), .val (.int x1), .val (.int (f0_v1 x0 x1)), .val (.int (f0_j4 x0 x1)), .val (.int (f0_j10 x0 x1)), .val (.int (f0_j16 x0 x1)), .unset, .unset, .unset, .unset] [(.int (f0_j4 x0 x1)), (.int (f0_v1 x0 x1))])) _
    refine XS.iload X17.here hx rfl (hb hby at_44) rfl ?_
    show Steps p.tables e below (T17.setTop (mkF m 46 #[.val (.int x0), .val (.int x1), .val (.int (f0_v1 x0 x1)), .val (.int (f0_j4 x0 x1)), .val (.int (f0_j10 x0 x1)), .val (.int (f0_j16 x0 x1)), .unset, .unset, .unset, .unset] [(.int (f0_j10 x0 x1)), (.int (f0_j4 x0 x1)), (.int (f0_v1 x0 x1))])) _
    refine st20 _ ?_
    show Steps p.tables e below (T20.setTop (mkF m 49 #[.val (.int x0), .val (.int x1), .val (.int (f0_v1 x0 x1)), .val (.int (f0_j4 x0 x1)), .val (.int (f0_j10 x0 x1)), .val (.int (f0_j16 x0 x1)), .unset, .unset, .unset, .unset] [(.int (f1 (f0_v1 x0 x1) (f0_j4 x0 x1) (f0_j10 x0 x1)))])) _
    refine XS.istore X20.here hx rfl (hb hby at_49) rfl (l' := #[.val (.int x0), .val (.int x1), .val (.int (f0_v1 x0 x1)), .val (.int (f0_j4 x0 x1)), .val (.int (f0_j10 x0 x1)), .val (.int (f0_j16 x0 x1)), .val (.int (f0_v21 x0 x1)), .unset, .unset, .unset]) rfl ?_
    show Steps p.tables e below (T20.setTop (mkF m 51 #[.val (.int x0), .val (.int x1), .val (.int (f0_v1 x0 x1)), .val (.int (f0_j4 x0 x1)), .val (.int (f0_j10 x0 x1)), .val (.int (f0_j16 x0 x1)), .val (.int (f0_v21 x0 x1)), .unset, .unset, .unset] [])) _
    refine XS.iloadN X20.here hx rfl (hb hby at_51) rfl ?_
    exact k
  obtain ⟨T54, L54, X54, N54, e54, pre54⟩ : ∃ (T' : State) (L' : List Loc), Stand p l e room_1 s m #[(.int x0), (.int x1)] below meth c T' L' 0 0 ∧ Fr n0 L' ∧ T'.heap = h0 ∧ ∀ t, Steps p.tables e below (T'.setTop (mkF m 91 #[.val (.int x0), .val (.int x1), .val (.int (f0_v1 x0 x1)), .val (.int (f0_j4 x0 x1)), .val (.int (f0_j10 x0 x1)), .val (.int (f0_j16 x0 x1)), .val (.int (f0_v21 x0 x1)), .val (.int (f0_j53 x0 x1)), .unset, .unset] [])) t → Steps p.tables e below (s₁.setTop (entryFrame m #[(.int x0), (.int x1)] maxLocals)) t := by
    rcases Bool.eq_false_or_eq_true (ifCond.holds .eq (f0_v1 x0 x1)) with hc23 | hc23
    · have pre24 : ∀ t, Steps p.tables e below (T20.setTop (mkF m 62 #[.val (.int x0), .val (.int x1), .val (.int (f0_v1 x0 x1)), .val (.int (f0_j4 x0 x1)), .val (.int (f0_j10 x0 x1)), .val (.int (f0_j16 x0 x1)), .val (.int (f0_v21 x0 x1)), .unset, .unset, .unset] [(.int (f0_j10 x0 x1))])) t → Steps p.tables e below (s₁.setTop (entryFrame m #[(.int x0), (.int x1)] maxLocals)) t := by
        intro t k
        refine pre22 _ ?_
        show Steps p.tables e below (T20.setTop (mkF m 52 #[.val (.int x0), .val (.int x1), .val (.int (f0_v1 x0 x1)), .val (.int (f0_j4 x0 x1)), .val (.int (f0_j10 x0 x1)), .val (.int (f0_j16 x0 x1)), .val (.int (f0_v21 x0 x1)), .unset, .unset, .unset] [(.int (f0_v1 x0 x1))])) _
        refine XS.ifYes X20.here hx rfl (pc0 := 52) (pc' := 60) rfl (hb hby at_52) rfl hc23 (by decide) (by decide) ?_
        show Steps p.tables e below (T20.setTop (mkF m 60 #[.val (.int x0), .val (.int x1), .val (.int (f0_v1 x0 x1)), .val (.int (f0_j4 x0 x1)), .val (.int (f0_j10 x0 x1)), .val (.int (f0_j16 x0 x1)), .val (.int (f0_v21 x0 x1)), .unset, .unset, .unset] [])) _
        refine XS.iload X20.here hx rfl (hb hby at_60) rfl ?_
        exact k
      obtain ⟨T27, L27, X27, N27, e27, pre27⟩ : ∃ (T' : State) (L' : List Loc), Stand p l e room_1 s m #[(.int x0), (.int x1)] below meth c T' L' 0 0 ∧ Fr n0 L' ∧ T'.heap = h0 ∧ ∀ t, Steps p.tables e below (T'.setTop (mkF m 70 #[.val (.int x0), .val (.int x1), .val (.int (f0_v1 x0 x1)), .val (.int (f0_j4 x0 x1)), .val (.int (f0_j10 x0 x1)), .val (.int (f0_j16 x0 x1)), .val (.int (f0_v21 x0 x1)), .unset, .unset, .unset] [(.int (f0_j26 x0 x1))])) t → Steps p.tables e below (s₁.setTop (entryFrame m #[(.int x0), (.int x1)] maxLocals)) t := by
        rcases Bool.eq_false_or_eq_true (ifCond.holds .eq (f0_j10 x0 x1)) with hc25 | hc25
        · have pre28 : ∀ t, Steps p.tables e below (T20.setTop (mkF m 70 #[.val (.int x0), .val (.int x1), .val (.int (f0_v1 x0 x1)), .val (.int (f0_j4 x0 x1)), .val (.int (f0_j10 x0 x1)), .val (.int (f0_j16 x0 x1)), .val (.int (f0_v21 x0 x1)), .unset, .unset, .unset] [(.int (0 : Int32))])) t → Steps p.tables e below (s₁.setTop (entryFrame m #[(.int x0), (.int x1)] maxLocals)) t := by
            intro t k
            refine pre24 _ ?_
            show Steps p.tables e below (T20.setTop (mkF m 62 #[.val (.int x0), .val (.int x1), .val (.int (f0_v1 x0 x1)), .val (.int (f0_j4 x0 x1)), .val (.int (f0_j10 x0 x1)), .val (.int (f0_j16 x0 x1)), .val (.int (f0_v21 x0 x1)), .unset, .unset, .unset] [(.int (f0_j10 x0 x1))])) _
            refine XS.ifYes X20.here hx rfl (pc0 := 62) (pc' := 69) rfl (hb hby at_62) rfl hc25 (by decide) (by decide) ?_
            show Steps p.tables e below (T20.setTop (mkF m 69 #[.val (.int x0), .val (.int x1), .val (.int (f0_v1 x0 x1)), .val (.int (f0_j4 x0 x1)), .val (.int (f0_j10 x0 x1)), .val (.int (f0_j16 x0 x1)), .val (.int (f0_v21 x0 x1)), .unset, .unset, .unset] [])) _
            refine XS.iconst X20.here hx rfl (hb hby at_69) ?_
            exact k
          have qj0 : (f0_j26 x0 x1) = (0 : Int32) := if_pos hc25
          refine ⟨T20, _, X20, N20, e20, fun t k => pre28 _ ?_⟩
          rw [qj0] at k
          exact k
        · have pre29 : ∀ t, Steps p.tables e below (T20.setTop (mkF m 70 #[.val (.int x0), .val (.int x1), .val (.int (f0_v1 x0 x1)), .val (.int (f0_j4 x0 x1)), .val (.int (f0_j10 x0 x1)), .val (.int (f0_j16 x0 x1)), .val (.int (f0_v21 x0 x1)), .unset, .unset, .unset] [(.int (1 : Int32))])) t → Steps p.tables e below (s₁.setTop (entryFrame m #[(.int x0), (.int x1)] maxLocals)) t := by
            intro t k
            refine pre24 _ ?_
            show Steps p.tables e below (T20.setTop (mkF m 62 #[.val (.int x0), .val (.int x1), .val (.int (f0_v1 x0 x1)), .val (.int (f0_j4 x0 x1)), .val (.int (f0_j10 x0 x1)), .val (.int (f0_j16 x0 x1)), .val (.int (f0_v21 x0 x1)), .unset, .unset, .unset] [(.int (f0_j10 x0 x1))])) _
            refine XS.ifNo X20.here hx rfl (hb hby at_62) rfl hc25 ?_
            show Steps p.tables e below (T20.setTop (mkF m 65 #[.val (.int x0), .val (.int x1), .val (.int (f0_v1 x0 x1)), .val (.int (f0_j4 x0 x1)), .val (.int (f0_j10 x0 x1)), .val (.int (f0_j16 x0 x1)), .val (.int (f0_v21 x0 x1)), .unset, .unset, .unset] [])) _
            refine XS.iconst X20.here hx rfl (hb hby at_65) ?_
            show Steps p.tables e below (T20.setTop (mkF m 66 #[.val (.int x0), .val (.int x1), .val (.int (f0_v1 x0 x1)), .val (.int (f0_j4 x0 x1)), .val (.int (f0_j10 x0 x1)), .val (.int (f0_j16 x0 x1)), .val (.int (f0_v21 x0 x1)), .unset, .unset, .unset] [(.int (1 : Int32))])) _
            refine XS.goto X20.here hx rfl (pc0 := 66) (pc' := 70) rfl (hb hby at_66) (by decide) (by decide) ?_
            exact k
          have qj0 : (f0_j26 x0 x1) = (1 : Int32) := if_neg (own_nt hc25)
          refine ⟨T20, _, X20, N20, e20, fun t k => pre29 _ ?_⟩
          rw [qj0] at k
          exact k
      have pre55 : ∀ t, Steps p.tables e below (T27.setTop (mkF m 91 #[.val (.int x0), .val (.int x1), .val (.int (f0_v1 x0 x1)), .val (.int (f0_j4 x0 x1)), .val (.int (f0_j10 x0 x1)), .val (.int (f0_j16 x0 x1)), .val (.int (f0_v21 x0 x1)), .val (.int (f0_j26 x0 x1)), .unset, .unset] [])) t → Steps p.tables e below (s₁.setTop (entryFrame m #[(.int x0), (.int x1)] maxLocals)) t := by
        intro t k
        refine pre27 _ ?_
        show Steps p.tables e below (T27.setTop (mkF m 70 #[.val (.int x0), .val (.int x1), .val (.int (f0_v1 x0 x1)), .val (.int (f0_j4 x0 x1)), .val (.int (f0_j10 x0 x1)), .val (.int (f0_j16 x0 x1)), .val (.int (f0_v21 x0 x1)), .unset, .unset, .unset] [(.int (f0_j26 x0 x1))])) _
        refine XS.istore X27.here hx rfl (hb hby at_70) rfl (l' := #[.val (.int x0), .val (.int x1), .val (.int (f0_v1 x0 x1)), .val (.int (f0_j4 x0 x1)), .val (.int (f0_j10 x0 x1)), .val (.int (f0_j16 x0 x1)), .val (.int (f0_v21 x0 x1)), .val (.int (f0_j26 x0 x1)), .unset, .unset]) rfl ?_
        show Steps p.tables e below (T27.setTop (mkF m 72 #[.val (.int x0), .val (.int x1), .val (.int (f0_v1 x0 x1)), .val (.int (f0_j4 x0 x1)), .val (.int (f0_j10 x0 x1)), .val (.int (f0_j16 x0 x1)), .val (.int (f0_v21 x0 x1)), .val (.int (f0_j26 x0 x1)), .unset, .unset] [])) _
        refine XS.goto X27.here hx rfl (pc0 := 72) (pc' := 91) rfl (hb hby at_72) (by decide) (by decide) ?_
        exact k
      have qj0 : (f0_j53 x0 x1) = (f0_j26 x0 x1) := if_pos hc23
      refine ⟨T27, _, X27, N27, e27, fun t k => pre55 _ ?_⟩
      rw [qj0] at k
      exact k
    · have pre30 : ∀ t, Steps p.tables e below (T20.setTop (mkF m 57 #[.val (.int x0), .val (.int x1), .val (.int (f0_v1 x0 x1)), .val (.int (f0_j4 x0 x1)), .val (.int (f0_j10 x0 x1)), .val (.int (f0_j16 x0 x1)), .val (.int (f0_v21 x0 x1)), .unset, .unset, .unset] [(.int (3 : Int32)), (.int (f0_v1 x0 x1))])) t → Steps p.tables e below (s₁.setTop (entryFrame m #[(.int x0), (.int x1)] maxLocals)) t := by
        intro t k
        refine pre22 _ ?_
        show Steps p.tables e below (T20.setTop (mkF m 52 #[.val (.int x0), .val (.int x1), .val (.int (f0_v1 x0 x1)), .val (.int (f0_j4 x0 x1)), .val (.int (f0_j10 x0 x1)), .val (.int (f0_j16 x0 x1)), .val (.int (f0_v21 x0 x1)), .unset, .unset, .unset] [(.int (f0_v1 x0 x1))])) _
        refine XS.ifNo X20.here hx rfl (hb hby at_52) rfl hc23 ?_
        show Steps p.tables e below (T20.setTop (mkF m 55 #[.val (.int x0), .val (.int x1), .val (.int (f0_v1 x0 x1)), .val (.int (f0_j4 x0 x1)), .val (.int (f0_j10 x0 x1)), .val (.int (f0_j16 x0 x1)), .val (.int (f0_v21 x0 x1)), .unset, .unset, .unset] [])) _
        refine XS.iloadN X20.here hx rfl (hb hby at_55) rfl ?_
        show Steps p.tables e below (T20.setTop (mkF m 56 #[.val (.int x0), .val (.int x1), .val (.int (f0_v1 x0 x1)), .val (.int (f0_j4 x0 x1)), .val (.int (f0_j10 x0 x1)), .val (.int (f0_j16 x0 x1)), .val (.int (f0_v21 x0 x1)), .unset, .unset, .unset] [(.int (f0_v1 x0 x1))])) _
        refine XS.iconst X20.here hx rfl (hb hby at_56) ?_
        exact k
      obtain ⟨T50, L50, X50, N50, e50, pre50⟩ : ∃ (T' : State) (L' : List Loc), Stand p l e room_1 s m #[(.int x0), (.int x1)] below meth c T' L' 0 0 ∧ Fr n0 L' ∧ T'.heap = h0 ∧ ∀ t, Steps p.tables e below (T'.setTop (mkF m 91 #[.val (.int x0), .val (.int x1), .val (.int (f0_v1 x0 x1)), .val (.int (f0_j4 x0 x1)), .val (.int (f0_j10 x0 x1)), .val (.int (f0_j16 x0 x1)), .val (.int (f0_v21 x0 x1)), .val (.int (f0_j49 x0 x1)), .unset, .unset] [])) t → Steps p.tables e below (s₁.setTop (entryFrame m #[(.int x0), (.int x1)] maxLocals)) t := by
        rcases Bool.eq_false_or_eq_true (if_icmp.holds .ne (f0_v1 x0 x1) (3 : Int32)) with hc31 | hc31
        · have pre32 : ∀ t, Steps p.tables e below (T20.setTop (mkF m 76 #[.val (.int x0), .val (.int x1), .val (.int (f0_v1 x0 x1)), .val (.int (f0_j4 x0 x1)), .val (.int (f0_j10 x0 x1)), .val (.int (f0_j16 x0 x1)), .val (.int (f0_v21 x0 x1)), .unset, .unset, .unset] [(.int (f0_j4 x0 x1))])) t → Steps p.tables e below (s₁.setTop (entryFrame m #[(.int x0), (.int x1)] maxLocals)) t := by
            intro t k
            refine pre30 _ ?_
            show Steps p.tables e below (T20.setTop (mkF m 57 #[.val (.int x0), .val (.int x1), .val (.int (f0_v1 x0 x1)), .val (.int (f0_j4 x0 x1)), .val (.int (f0_j10 x0 x1)), .val (.int (f0_j16 x0 x1)), .val (.int (f0_v21 x0 x1)), .unset, .unset, .unset] [(.int (3 : Int32)), (.int (f0_v1 x0 x1))])) _
            refine XS.icmpYes X20.here hx rfl (pc0 := 57) (pc' := 75) rfl (hb hby at_57) rfl hc31 (by decide) (by decide) ?_
            show Steps p.tables e below (T20.setTop (mkF m 75 #[.val (.int x0), .val (.int x1), .val (.int (f0_v1 x0 x1)), .val (.int (f0_j4 x0 x1)), .val (.int (f0_j10 x0 x1)), .val (.int (f0_j16 x0 x1)), .val (.int (f0_v21 x0 x1)), .unset, .unset, .unset] [])) _
            refine XS.iloadN X20.here hx rfl (hb hby at_75) rfl ?_
            exact k
          obtain ⟨T41, L41, X41, N41, e41, pre41⟩ : ∃ (T' : State) (L' : List Loc), Stand p l e room_1 s m #[(.int x0), (.int x1)] below meth c T' L' 0 0 ∧ Fr n0 L' ∧ T'.heap = h0 ∧ ∀ t, Steps p.tables e below (T'.setTop (mkF m 89 #[.val (.int x0), .val (.int x1), .val (.int (f0_v1 x0 x1)), .val (.int (f0_j4 x0 x1)), .val (.int (f0_j10 x0 x1)), .val (.int (f0_j16 x0 x1)), .val (.int (f0_v21 x0 x1)), .unset, .unset, .unset] [(.int (f0_j40 x0 x1))])) t → Steps p.tables e below (s₁.setTop (entryFrame m #[(.int x0), (.int x1)] maxLocals)) t := by
            rcases Bool.eq_false_or_eq_true (ifCond.holds .ne (f0_j4 x0 x1)) with hc33 | hc33
            · have pre42 : ∀ t, Steps p.tables e below (T20.setTop (mkF m 89 #[.val (.int x0), .val (.int x1), .val (.int (f0_v1 x0 x1)), .val (.int (f0_j4 x0 x1)), .val (.int (f0_j10 x0 x1)), .val (.int (f0_j16 x0 x1)), .val (.int (f0_v21 x0 x1)), .unset, .unset, .unset] [(.int (2 : Int32))])) t → Steps p.tables e below (s₁.setTop (entryFrame m #[(.int x0), (.int x1)] maxLocals)) t := by
                intro t k
                refine pre32 _ ?_
                show Steps p.tables e below (T20.setTop (mkF m 76 #[.val (.int x0), .val (.int x1), .val (.int (f0_v1 x0 x1)), .val (.int (f0_j4 x0 x1)), .val (.int (f0_j10 x0 x1)), .val (.int (f0_j16 x0 x1)), .val (.int (f0_v21 x0 x1)), .unset, .unset, .unset] [(.int (f0_j4 x0 x1))])) _
                refine XS.ifYes X20.here hx rfl (pc0 := 76) (pc' := 84) rfl (hb hby at_76) rfl hc33 (by decide) (by decide) ?_
                show Steps p.tables e below (T20.setTop (mkF m 84 #[.val (.int x0), .val (.int x1), .val (.int (f0_v1 x0 x1)), .val (.int (f0_j4 x0 x1)), .val (.int (f0_j10 x0 x1)), .val (.int (f0_j16 x0 x1)), .val (.int (f0_v21 x0 x1)), .unset, .unset, .unset] [])) _
                refine XS.iconst X20.here hx rfl (hb hby at_84) ?_
                show Steps p.tables e below (T20.setTop (mkF m 85 #[.val (.int x0), .val (.int x1), .val (.int (f0_v1 x0 x1)), .val (.int (f0_j4 x0 x1)), .val (.int (f0_j10 x0 x1)), .val (.int (f0_j16 x0 x1)), .val (.int (f0_v21 x0 x1)), .unset, .unset, .unset] [(.int (2 : Int32))])) _
                refine XS.goto X20.here hx rfl (pc0 := 85) (pc' := 89) rfl (hb hby at_85) (by decide) (by decide) ?_
                exact k
              have qj0 : (f0_j40 x0 x1) = (2 : Int32) := if_pos hc33
              refine ⟨T20, _, X20, N20, e20, fun t k => pre42 _ ?_⟩
              rw [qj0] at k
              exact k
            · have pre34 : ∀ t, Steps p.tables e below (T20.setTop (mkF m 81 #[.val (.int x0), .val (.int x1), .val (.int (f0_v1 x0 x1)), .val (.int (f0_j4 x0 x1)), .val (.int (f0_j10 x0 x1)), .val (.int (f0_j16 x0 x1)), .val (.int (f0_v21 x0 x1)), .unset, .unset, .unset] [(.int (f0_j10 x0 x1))])) t → Steps p.tables e below (s₁.setTop (entryFrame m #[(.int x0), (.int x1)] maxLocals)) t := by
                intro t k
                refine pre32 _ ?_
                show Steps p.tables e below (T20.setTop (mkF m 76 #[.val (.int x0), .val (.int x1), .val (.int (f0_v1 x0 x1)), .val (.int (f0_j4 x0 x1)), .val (.int (f0_j10 x0 x1)), .val (.int (f0_j16 x0 x1)), .val (.int (f0_v21 x0 x1)), .unset, .unset, .unset] [(.int (f0_j4 x0 x1))])) _
                refine XS.ifNo X20.here hx rfl (hb hby at_76) rfl hc33 ?_
                show Steps p.tables e below (T20.setTop (mkF m 79 #[.val (.int x0), .val (.int x1), .val (.int (f0_v1 x0 x1)), .val (.int (f0_j4 x0 x1)), .val (.int (f0_j10 x0 x1)), .val (.int (f0_j16 x0 x1)), .val (.int (f0_v21 x0 x1)), .unset, .unset, .unset] [])) _
                refine XS.iload X20.here hx rfl (hb hby at_79) rfl ?_
                exact k
              obtain ⟨T37, L37, X37, N37, e37, pre37⟩ : ∃ (T' : State) (L' : List Loc), Stand p l e room_1 s m #[(.int x0), (.int x1)] below meth c T' L' 0 0 ∧ Fr n0 L' ∧ T'.heap = h0 ∧ ∀ t, Steps p.tables e below (T'.setTop (mkF m 89 #[.val (.int x0), .val (.int x1), .val (.int (f0_v1 x0 x1)), .val (.int (f0_j4 x0 x1)), .val (.int (f0_j10 x0 x1)), .val (.int (f0_j16 x0 x1)), .val (.int (f0_v21 x0 x1)), .unset, .unset, .unset] [(.int (f0_j36 x0 x1))])) t → Steps p.tables e below (s₁.setTop (entryFrame m #[(.int x0), (.int x1)] maxLocals)) t := by
                rcases Bool.eq_false_or_eq_true (ifCond.holds .eq (f0_j10 x0 x1)) with hc35 | hc35
                · have pre38 : ∀ t, Steps p.tables e below (T20.setTop (mkF m 89 #[.val (.int x0), .val (.int x1), .val (.int (f0_v1 x0 x1)), .val (.int (f0_j4 x0 x1)), .val (.int (f0_j10 x0 x1)), .val (.int (f0_j16 x0 x1)), .val (.int (f0_v21 x0 x1)), .unset, .unset, .unset] [(.int (3 : Int32))])) t → Steps p.tables e below (s₁.setTop (entryFrame m #[(.int x0), (.int x1)] maxLocals)) t := by
                    intro t k
                    refine pre34 _ ?_
                    show Steps p.tables e below (T20.setTop (mkF m 81 #[.val (.int x0), .val (.int x1), .val (.int (f0_v1 x0 x1)), .val (.int (f0_j4 x0 x1)), .val (.int (f0_j10 x0 x1)), .val (.int (f0_j16 x0 x1)), .val (.int (f0_v21 x0 x1)), .unset, .unset, .unset] [(.int (f0_j10 x0 x1))])) _
                    refine XS.ifYes X20.here hx rfl (pc0 := 81) (pc' := 88) rfl (hb hby at_81) rfl hc35 (by decide) (by decide) ?_
                    show Steps p.tables e below (T20.setTop (mkF m 88 #[.val (.int x0), .val (.int x1), .val (.int (f0_v1 x0 x1)), .val (.int (f0_j4 x0 x1)), .val (.int (f0_j10 x0 x1)), .val (.int (f0_j16 x0 x1)), .val (.int (f0_v21 x0 x1)), .unset, .unset, .unset] [])) _
                    refine XS.iconst X20.here hx rfl (hb hby at_88) ?_
                    exact k
                  have qj0 : (f0_j36 x0 x1) = (3 : Int32) := if_pos hc35
                  refine ⟨T20, _, X20, N20, e20, fun t k => pre38 _ ?_⟩
                  rw [qj0] at k
                  exact k
                · have pre39 : ∀ t, Steps p.tables e below (T20.setTop (mkF m 89 #[.val (.int x0), .val (.int x1), .val (.int (f0_v1 x0 x1)), .val (.int (f0_j4 x0 x1)), .val (.int (f0_j10 x0 x1)), .val (.int (f0_j16 x0 x1)), .val (.int (f0_v21 x0 x1)), .unset, .unset, .unset] [(.int (2 : Int32))])) t → Steps p.tables e below (s₁.setTop (entryFrame m #[(.int x0), (.int x1)] maxLocals)) t := by
                    intro t k
                    refine pre34 _ ?_
                    show Steps p.tables e below (T20.setTop (mkF m 81 #[.val (.int x0), .val (.int x1), .val (.int (f0_v1 x0 x1)), .val (.int (f0_j4 x0 x1)), .val (.int (f0_j10 x0 x1)), .val (.int (f0_j16 x0 x1)), .val (.int (f0_v21 x0 x1)), .unset, .unset, .unset] [(.int (f0_j10 x0 x1))])) _
                    refine XS.ifNo X20.here hx rfl (hb hby at_81) rfl hc35 ?_
                    show Steps p.tables e below (T20.setTop (mkF m 84 #[.val (.int x0), .val (.int x1), .val (.int (f0_v1 x0 x1)), .val (.int (f0_j4 x0 x1)), .val (.int (f0_j10 x0 x1)), .val (.int (f0_j16 x0 x1)), .val (.int (f0_v21 x0 x1)), .unset, .unset, .unset] [])) _
                    refine XS.iconst X20.here hx rfl (hb hby at_84) ?_
                    show Steps p.tables e below (T20.setTop (mkF m 85 #[.val (.int x0), .val (.int x1), .val (.int (f0_v1 x0 x1)), .val (.int (f0_j4 x0 x1)), .val (.int (f0_j10 x0 x1)), .val (.int (f0_j16 x0 x1)), .val (.int (f0_v21 x0 x1)), .unset, .unset, .unset] [(.int (2 : Int32))])) _
                    refine XS.goto X20.here hx rfl (pc0 := 85) (pc' := 89) rfl (hb hby at_85) (by decide) (by decide) ?_
                    exact k
                  have qj0 : (f0_j36 x0 x1) = (2 : Int32) := if_neg (own_nt hc35)
                  refine ⟨T20, _, X20, N20, e20, fun t k => pre39 _ ?_⟩
                  rw [qj0] at k
                  exact k
              have qj0 : (f0_j40 x0 x1) = (f0_j36 x0 x1) := if_neg (own_nt hc33)
              refine ⟨T37, _, X37, N37, e37, fun t k => pre37 _ ?_⟩
              rw [qj0] at k
              exact k
          have pre51 : ∀ t, Steps p.tables e below (T41.setTop (mkF m 91 #[.val (.int x0), .val (.int x1), .val (.int (f0_v1 x0 x1)), .val (.int (f0_j4 x0 x1)), .val (.int (f0_j10 x0 x1)), .val (.int (f0_j16 x0 x1)), .val (.int (f0_v21 x0 x1)), .val (.int (f0_j40 x0 x1)), .unset, .unset] [])) t → Steps p.tables e below (s₁.setTop (entryFrame m #[(.int x0), (.int x1)] maxLocals)) t := by
            intro t k
            refine pre41 _ ?_
            show Steps p.tables e below (T41.setTop (mkF m 89 #[.val (.int x0), .val (.int x1), .val (.int (f0_v1 x0 x1)), .val (.int (f0_j4 x0 x1)), .val (.int (f0_j10 x0 x1)), .val (.int (f0_j16 x0 x1)), .val (.int (f0_v21 x0 x1)), .unset, .unset, .unset] [(.int (f0_j40 x0 x1))])) _
            refine XS.istore X41.here hx rfl (hb hby at_89) rfl (l' := #[.val (.int x0), .val (.int x1), .val (.int (f0_v1 x0 x1)), .val (.int (f0_j4 x0 x1)), .val (.int (f0_j10 x0 x1)), .val (.int (f0_j16 x0 x1)), .val (.int (f0_v21 x0 x1)), .val (.int (f0_j40 x0 x1)), .unset, .unset]) rfl ?_
            exact k
          have qj0 : (f0_j49 x0 x1) = (f0_j40 x0 x1) := if_pos hc31
          refine ⟨T41, _, X41, N41, e41, fun t k => pre51 _ ?_⟩
          rw [qj0] at k
          exact k
        · have pre43 : ∀ t, Steps p.tables e below (T20.setTop (mkF m 62 #[.val (.int x0), .val (.int x1), .val (.int (f0_v1 x0 x1)), .val (.int (f0_j4 x0 x1)), .val (.int (f0_j10 x0 x1)), .val (.int (f0_j16 x0 x1)), .val (.int (f0_v21 x0 x1)), .unset, .unset, .unset] [(.int (f0_j10 x0 x1))])) t → Steps p.tables e below (s₁.setTop (entryFrame m #[(.int x0), (.int x1)] maxLocals)) t := by
            intro t k
            refine pre30 _ ?_
            show Steps p.tables e below (T20.setTop (mkF m 57 #[.val (.int x0), .val (.int x1), .val (.int (f0_v1 x0 x1)), .val (.int (f0_j4 x0 x1)), .val (.int (f0_j10 x0 x1)), .val (.int (f0_j16 x0 x1)), .val (.int (f0_v21 x0 x1)), .unset, .unset, .unset] [(.int (3 : Int32)), (.int (f0_v1 x0 x1))])) _
            refine XS.icmpNo X20.here hx rfl (hb hby at_57) rfl hc31 ?_
            show Steps p.tables e below (T20.setTop (mkF m 60 #[.val (.int x0), .val (.int x1), .val (.int (f0_v1 x0 x1)), .val (.int (f0_j4 x0 x1)), .val (.int (f0_j10 x0 x1)), .val (.int (f0_j16 x0 x1)), .val (.int (f0_v21 x0 x1)), .unset, .unset, .unset] [])) _
            refine XS.iload X20.here hx rfl (hb hby at_60) rfl ?_
            exact k
          obtain ⟨T46, L46, X46, N46, e46, pre46⟩ : ∃ (T' : State) (L' : List Loc), Stand p l e room_1 s m #[(.int x0), (.int x1)] below meth c T' L' 0 0 ∧ Fr n0 L' ∧ T'.heap = h0 ∧ ∀ t, Steps p.tables e below (T'.setTop (mkF m 70 #[.val (.int x0), .val (.int x1), .val (.int (f0_v1 x0 x1)), .val (.int (f0_j4 x0 x1)), .val (.int (f0_j10 x0 x1)), .val (.int (f0_j16 x0 x1)), .val (.int (f0_v21 x0 x1)), .unset, .unset, .unset] [(.int (f0_j45 x0 x1))])) t → Steps p.tables e below (s₁.setTop (entryFrame m #[(.int x0), (.int x1)] maxLocals)) t := by
            rcases Bool.eq_false_or_eq_true (ifCond.holds .eq (f0_j10 x0 x1)) with hc44 | hc44
            · have pre47 : ∀ t, Steps p.tables e below (T20.setTop (mkF m 70 #[.val (.int x0), .val (.int x1), .val (.int (f0_v1 x0 x1)), .val (.int (f0_j4 x0 x1)), .val (.int (f0_j10 x0 x1)), .val (.int (f0_j16 x0 x1)), .val (.int (f0_v21 x0 x1)), .unset, .unset, .unset] [(.int (0 : Int32))])) t → Steps p.tables e below (s₁.setTop (entryFrame m #[(.int x0), (.int x1)] maxLocals)) t := by
                intro t k
                refine pre43 _ ?_
                show Steps p.tables e below (T20.setTop (mkF m 62 #[.val (.int x0), .val (.int x1), .val (.int (f0_v1 x0 x1)), .val (.int (f0_j4 x0 x1)), .val (.int (f0_j10 x0 x1)), .val (.int (f0_j16 x0 x1)), .val (.int (f0_v21 x0 x1)), .unset, .unset, .unset] [(.int (f0_j10 x0 x1))])) _
                refine XS.ifYes X20.here hx rfl (pc0 := 62) (pc' := 69) rfl (hb hby at_62) rfl hc44 (by decide) (by decide) ?_
                show Steps p.tables e below (T20.setTop (mkF m 69 #[.val (.int x0), .val (.int x1), .val (.int (f0_v1 x0 x1)), .val (.int (f0_j4 x0 x1)), .val (.int (f0_j10 x0 x1)), .val (.int (f0_j16 x0 x1)), .val (.int (f0_v21 x0 x1)), .unset, .unset, .unset] [])) _
                refine XS.iconst X20.here hx rfl (hb hby at_69) ?_
                exact k
              have qj0 : (f0_j45 x0 x1) = (0 : Int32) := if_pos hc44
              refine ⟨T20, _, X20, N20, e20, fun t k => pre47 _ ?_⟩
              rw [qj0] at k
              exact k
            · have pre48 : ∀ t, Steps p.tables e below (T20.setTop (mkF m 70 #[.val (.int x0), .val (.int x1), .val (.int (f0_v1 x0 x1)), .val (.int (f0_j4 x0 x1)), .val (.int (f0_j10 x0 x1)), .val (.int (f0_j16 x0 x1)), .val (.int (f0_v21 x0 x1)), .unset, .unset, .unset] [(.int (1 : Int32))])) t → Steps p.tables e below (s₁.setTop (entryFrame m #[(.int x0), (.int x1)] maxLocals)) t := by
                intro t k
                refine pre43 _ ?_
                show Steps p.tables e below (T20.setTop (mkF m 62 #[.val (.int x0), .val (.int x1), .val (.int (f0_v1 x0 x1)), .val (.int (f0_j4 x0 x1)), .val (.int (f0_j10 x0 x1)), .val (.int (f0_j16 x0 x1)), .val (.int (f0_v21 x0 x1)), .unset, .unset, .unset] [(.int (f0_j10 x0 x1))])) _
                refine XS.ifNo X20.here hx rfl (hb hby at_62) rfl hc44 ?_
                show Steps p.tables e below (T20.setTop (mkF m 65 #[.val (.int x0), .val (.int x1), .val (.int (f0_v1 x0 x1)), .val (.int (f0_j4 x0 x1)), .val (.int (f0_j10 x0 x1)), .val (.int (f0_j16 x0 x1)), .val (.int (f0_v21 x0 x1)), .unset, .unset, .unset] [])) _
                refine XS.iconst X20.here hx rfl (hb hby at_65) ?_
                show Steps p.tables e below (T20.setTop (mkF m 66 #[.val (.int x0), .val (.int x1), .val (.int (f0_v1 x0 x1)), .val (.int (f0_j4 x0 x1)), .val (.int (f0_j10 x0 x1)), .val (.int (f0_j16 x0 x1)), .val (.int (f0_v21 x0 x1)), .unset, .unset, .unset] [(.int (1 : Int32))])) _
                refine XS.goto X20.here hx rfl (pc0 := 66) (pc' := 70) rfl (hb hby at_66) (by decide) (by decide) ?_
                exact k
              have qj0 : (f0_j45 x0 x1) = (1 : Int32) := if_neg (own_nt hc44)
              refine ⟨T20, _, X20, N20, e20, fun t k => pre48 _ ?_⟩
              rw [qj0] at k
              exact k
          have pre52 : ∀ t, Steps p.tables e below (T46.setTop (mkF m 91 #[.val (.int x0), .val (.int x1), .val (.int (f0_v1 x0 x1)), .val (.int (f0_j4 x0 x1)), .val (.int (f0_j10 x0 x1)), .val (.int (f0_j16 x0 x1)), .val (.int (f0_v21 x0 x1)), .val (.int (f0_j45 x0 x1)), .unset, .unset] [])) t → Steps p.tables e below (s₁.setTop (entryFrame m #[(.int x0), (.int x1)] maxLocals)) t := by
            intro t k
            refine pre46 _ ?_
            show Steps p.tables e below (T46.setTop (mkF m 70 #[.val (.int x0), .val (.int x1), .val (.int (f0_v1 x0 x1)), .val (.int (f0_j4 x0 x1)), .val (.int (f0_j10 x0 x1)), .val (.int (f0_j16 x0 x1)), .val (.int (f0_v21 x0 x1)), .unset, .unset, .unset] [(.int (f0_j45 x0 x1))])) _
            refine XS.istore X46.here hx rfl (hb hby at_70) rfl (l' := #[.val (.int x0), .val (.int x1), .val (.int (f0_v1 x0 x1)), .val (.int (f0_j4 x0 x1)), .val (.int (f0_j10 x0 x1)), .val (.int (f0_j16 x0 x1)), .val (.int (f0_v21 x0 x1)), .val (.int (f0_j45 x0 x1)), .unset, .unset]) rfl ?_
            show Steps p.tables e below (T46.setTop (mkF m 72 #[.val (.int x0), .val (.int x1), .val (.int (f0_v1 x0 x1)), .val (.int (f0_j4 x0 x1)), .val (.int (f0_j10 x0 x1)), .val (.int (f0_j16 x0 x1)), .val (.int (f0_v21 x0 x1)), .val (.int (f0_j45 x0 x1)), .unset, .unset] [])) _
            refine XS.goto X46.here hx rfl (pc0 := 72) (pc' := 91) rfl (hb hby at_72) (by decide) (by decide) ?_
            exact k
          have qj0 : (f0_j49 x0 x1) = (f0_j45 x0 x1) := if_neg (own_nt hc31)
          refine ⟨T46, _, X46, N46, e46, fun t k => pre52 _ ?_⟩
          rw [qj0] at k
          exact k
      have qj0 : (f0_j53 x0 x1) = (f0_j49 x0 x1) := if_neg (own_nt hc23)
      refine ⟨T50, _, X50, N50, e50, fun t k => pre50 _ ?_⟩
      rw [qj0] at k
      exact k
  obtain ⟨_, _, ⟨T56, L56, k56, n56⟩, -, X56, ⟨Lc56, hQ56, l56, y56, z56⟩, st56⟩ := Jvm.LawKit.callS X54 hx (y := (⟨"dev/stratumaudio/BlockSwitching", "blockType", "(IZZ)I"⟩ : MethodName)) hown (mvT hZ (hw _ (List.mem_of_getElem? (i := 0) rfl))) (mvT hZ (hw _ (List.mem_of_getElem? (i := 1) rfl))) (mvT hZ (hw _ (List.mem_of_getElem? (i := 2) rfl))) (mvT hZ (hw _ (List.mem_of_getElem? (i := 3) rfl))) (by decide) (backOf (W := 0) (rm1 l Z a0 hw [] (f0_v21 x0 x1) (f0_j10 x0 x1) (f0_j16 x0 x1) h0 n0 Z0) hZ (hw _ (List.mem_of_getElem? (i := 3) rfl)) (hw _ (List.mem_of_getElem? (i := 2) rfl)) (by decide) (by decide)) (g := (mkF m 97 #[.val (.int x0), .val (.int x1), .val (.int (f0_v1 x0 x1)), .val (.int (f0_j4 x0 x1)), .val (.int (f0_j10 x0 x1)), .val (.int (f0_j16 x0 x1)), .val (.int (f0_v21 x0 x1)), .val (.int (f0_j53 x0 x1)), .unset, .unset] [(.int (f0_j16 x0 x1)), (.int (f0_j10 x0 x1)), (.int (f0_v21 x0 x1))])) rfl (by rw [hml]; rfl) (argsL := [(.int (f0_v21 x0 x1)), (.int (f0_j10 x0 x1)), (.int (f0_j16 x0 x1))]) (rest := []) (lenOf pd_1 rfl) rfl (by show 2 * 0 + _ ≤ _; exact Nat.le_of_eq rfl) (hb hby at_97) (fun _ _ => ⟨rfl, e54, (by decide : 0 + 0 ≤ _), (by decide : 0 + 0 ≤ _)⟩)
  dsimp only [Pt.U, Pt.locs, Pt.cells, Pt.slots] at X56 l56 y56 z56 st56 hQ56
  subst l56 y56 z56
  obtain ⟨rfl, Nq56, e56⟩ := hQ56
  have N56 := Fr.app N54 Nq56
  have pre58 : ∀ t, Steps p.tables e below (T56.setTop (mkF m 104 #[.val (.int x0), .val (.int x1), .val (.int (f0_v1 x0 x1)), .val (.int (f0_j4 x0 x1)), .val (.int (f0_j10 x0 x1)), .val (.int (f0_j16 x0 x1)), .val (.int (f0_v21 x0 x1)), .val (.int (f0_j53 x0 x1)), .val (.int (f0_v57 x0 x1)), .unset] [(.int (f0_j10 x0 x1))])) t → Steps p.tables e below (s₁.setTop (entryFrame m #[(.int x0), (.int x1)] maxLocals)) t := by
    intro t k
    refine pre54 _ ?_
    show Steps p.tables e below (T54.setTop (mkF m 91 #[.val (.int x0), .val (.int x1), .val (.int (f0_v1 x0 x1)), .val (.int (f0_j4 x0 x1)), .val (.int (f0_j10 x0 x1)), .val (.int (f0_j16 x0 x1)), .val (.int (f0_v21 x0 x1)), .val (.int (f0_j53 x0 x1)), .unset, .unset] [])) _
    refine XS.iload X54.here hx rfl (hb hby at_91) rfl ?_
    show Steps p.tables e below (T54.setTop (mkF m 93 #[.val (.int x0), .val (.int x1), .val (.int (f0_v1 x0 x1)), .val (.int (f0_j4 x0 x1)), .val (.int (f0_j10 x0 x1)), .val (.int (f0_j16 x0 x1)), .val (.int (f0_v21 x0 x1)), .val (.int (f0_j53 x0 x1)), .unset, .unset] [(.int (f0_v21 x0 x1))])) _
    refine XS.iload X54.here hx rfl (hb hby at_93) rfl ?_
    show Steps p.tables e below (T54.setTop (mkF m 95 #[.val (.int x0), .val (.int x1), .val (.int (f0_v1 x0 x1)), .val (.int (f0_j4 x0 x1)), .val (.int (f0_j10 x0 x1)), .val (.int (f0_j16 x0 x1)), .val (.int (f0_v21 x0 x1)), .val (.int (f0_j53 x0 x1)), .unset, .unset] [(.int (f0_j10 x0 x1)), (.int (f0_v21 x0 x1))])) _
    refine XS.iload X54.here hx rfl (hb hby at_95) rfl ?_
    show Steps p.tables e below (T54.setTop (mkF m 97 #[.val (.int x0), .val (.int x1), .val (.int (f0_v1 x0 x1)), .val (.int (f0_j4 x0 x1)), .val (.int (f0_j10 x0 x1)), .val (.int (f0_j16 x0 x1)), .val (.int (f0_v21 x0 x1)), .val (.int (f0_j53 x0 x1)), .unset, .unset] [(.int (f0_j16 x0 x1)), (.int (f0_j10 x0 x1)), (.int (f0_v21 x0 x1))])) _
    refine st56 _ ?_
    show Steps p.tables e below (T56.setTop (mkF m 100 #[.val (.int x0), .val (.int x1), .val (.int (f0_v1 x0 x1)), .val (.int (f0_j4 x0 x1)), .val (.int (f0_j10 x0 x1)), .val (.int (f0_j16 x0 x1)), .val (.int (f0_v21 x0 x1)), .val (.int (f0_j53 x0 x1)), .unset, .unset] [(.int (f1 (f0_v21 x0 x1) (f0_j10 x0 x1) (f0_j16 x0 x1)))])) _
    refine XS.istore X56.here hx rfl (hb hby at_100) rfl (l' := #[.val (.int x0), .val (.int x1), .val (.int (f0_v1 x0 x1)), .val (.int (f0_j4 x0 x1)), .val (.int (f0_j10 x0 x1)), .val (.int (f0_j16 x0 x1)), .val (.int (f0_v21 x0 x1)), .val (.int (f0_j53 x0 x1)), .val (.int (f0_v57 x0 x1)), .unset]) rfl ?_
    show Steps p.tables e below (T56.setTop (mkF m 102 #[.val (.int x0), .val (.int x1), .val (.int (f0_v1 x0 x1)), .val (.int (f0_j4 x0 x1)), .val (.int (f0_j10 x0 x1)), .val (.int (f0_j16 x0 x1)), .val (.int (f0_v21 x0 x1)), .val (.int (f0_j53 x0 x1)), .val (.int (f0_v57 x0 x1)), .unset] [])) _
    refine XS.iload X56.here hx rfl (hb hby at_102) rfl ?_
    exact k
  obtain ⟨T67, L67, X67, N67, e67, pre67⟩ : ∃ (T' : State) (L' : List Loc), Stand p l e room_1 s m #[(.int x0), (.int x1)] below meth c T' L' 0 0 ∧ Fr n0 L' ∧ T'.heap = h0 ∧ ∀ t, Steps p.tables e below (T'.setTop (mkF m 118 #[.val (.int x0), .val (.int x1), .val (.int (f0_v1 x0 x1)), .val (.int (f0_j4 x0 x1)), .val (.int (f0_j10 x0 x1)), .val (.int (f0_j16 x0 x1)), .val (.int (f0_v21 x0 x1)), .val (.int (f0_j53 x0 x1)), .val (.int (f0_v57 x0 x1)), .unset] [(.int (f0_j66 x0 x1))])) t → Steps p.tables e below (s₁.setTop (entryFrame m #[(.int x0), (.int x1)] maxLocals)) t := by
    rcases Bool.eq_false_or_eq_true (ifCond.holds .eq (f0_j10 x0 x1)) with hc59 | hc59
    · have pre68 : ∀ t, Steps p.tables e below (T56.setTop (mkF m 118 #[.val (.int x0), .val (.int x1), .val (.int (f0_v1 x0 x1)), .val (.int (f0_j4 x0 x1)), .val (.int (f0_j10 x0 x1)), .val (.int (f0_j16 x0 x1)), .val (.int (f0_v21 x0 x1)), .val (.int (f0_j53 x0 x1)), .val (.int (f0_v57 x0 x1)), .unset] [(.int (1 : Int32))])) t → Steps p.tables e below (s₁.setTop (entryFrame m #[(.int x0), (.int x1)] maxLocals)) t := by
        intro t k
        refine pre58 _ ?_
        show Steps p.tables e below (T56.setTop (mkF m 104 #[.val (.int x0), .val (.int x1), .val (.int (f0_v1 x0 x1)), .val (.int (f0_j4 x0 x1)), .val (.int (f0_j10 x0 x1)), .val (.int (f0_j16 x0 x1)), .val (.int (f0_v21 x0 x1)), .val (.int (f0_j53 x0 x1)), .val (.int (f0_v57 x0 x1)), .unset] [(.int (f0_j10 x0 x1))])) _
        refine XS.ifYes X56.here hx rfl (pc0 := 104) (pc' := 113) rfl (hb hby at_104) rfl hc59 (by decide) (by decide) ?_
        show Steps p.tables e below (T56.setTop (mkF m 113 #[.val (.int x0), .val (.int x1), .val (.int (f0_v1 x0 x1)), .val (.int (f0_j4 x0 x1)), .val (.int (f0_j10 x0 x1)), .val (.int (f0_j16 x0 x1)), .val (.int (f0_v21 x0 x1)), .val (.int (f0_j53 x0 x1)), .val (.int (f0_v57 x0 x1)), .unset] [])) _
        refine XS.iconst X56.here hx rfl (hb hby at_113) ?_
        show Steps p.tables e below (T56.setTop (mkF m 114 #[.val (.int x0), .val (.int x1), .val (.int (f0_v1 x0 x1)), .val (.int (f0_j4 x0 x1)), .val (.int (f0_j10 x0 x1)), .val (.int (f0_j16 x0 x1)), .val (.int (f0_v21 x0 x1)), .val (.int (f0_j53 x0 x1)), .val (.int (f0_v57 x0 x1)), .unset] [(.int (1 : Int32))])) _
        refine XS.goto X56.here hx rfl (pc0 := 114) (pc' := 118) rfl (hb hby at_114) (by decide) (by decide) ?_
        exact k
      have qj0 : (f0_j66 x0 x1) = (1 : Int32) := if_pos hc59
      refine ⟨T56, _, X56, N56, e56, fun t k => pre68 _ ?_⟩
      rw [qj0] at k
      exact k
    · have pre60 : ∀ t, Steps p.tables e below (T56.setTop (mkF m 110 #[.val (.int x0), .val (.int x1), .val (.int (f0_v1 x0 x1)), .val (.int (f0_j4 x0 x1)), .val (.int (f0_j10 x0 x1)), .val (.int (f0_j16 x0 x1)), .val (.int (f0_v21 x0 x1)), .val (.int (f0_j53 x0 x1)), .val (.int (f0_v57 x0 x1)), .unset] [(.int (2 : Int32)), (.int (f0_v57 x0 x1))])) t → Steps p.tables e below (s₁.setTop (entryFrame m #[(.int x0), (.int x1)] maxLocals)) t := by
        intro t k
        refine pre58 _ ?_
        show Steps p.tables e below (T56.setTop (mkF m 104 #[.val (.int x0), .val (.int x1), .val (.int (f0_v1 x0 x1)), .val (.int (f0_j4 x0 x1)), .val (.int (f0_j10 x0 x1)), .val (.int (f0_j16 x0 x1)), .val (.int (f0_v21 x0 x1)), .val (.int (f0_j53 x0 x1)), .val (.int (f0_v57 x0 x1)), .unset] [(.int (f0_j10 x0 x1))])) _
        refine XS.ifNo X56.here hx rfl (hb hby at_104) rfl hc59 ?_
        show Steps p.tables e below (T56.setTop (mkF m 107 #[.val (.int x0), .val (.int x1), .val (.int (f0_v1 x0 x1)), .val (.int (f0_j4 x0 x1)), .val (.int (f0_j10 x0 x1)), .val (.int (f0_j16 x0 x1)), .val (.int (f0_v21 x0 x1)), .val (.int (f0_j53 x0 x1)), .val (.int (f0_v57 x0 x1)), .unset] [])) _
        refine XS.iload X56.here hx rfl (hb hby at_107) rfl ?_
        show Steps p.tables e below (T56.setTop (mkF m 109 #[.val (.int x0), .val (.int x1), .val (.int (f0_v1 x0 x1)), .val (.int (f0_j4 x0 x1)), .val (.int (f0_j10 x0 x1)), .val (.int (f0_j16 x0 x1)), .val (.int (f0_v21 x0 x1)), .val (.int (f0_j53 x0 x1)), .val (.int (f0_v57 x0 x1)), .unset] [(.int (f0_v57 x0 x1))])) _
        refine XS.iconst X56.here hx rfl (hb hby at_109) ?_
        exact k
      obtain ⟨T63, L63, X63, N63, e63, pre63⟩ : ∃ (T' : State) (L' : List Loc), Stand p l e room_1 s m #[(.int x0), (.int x1)] below meth c T' L' 0 0 ∧ Fr n0 L' ∧ T'.heap = h0 ∧ ∀ t, Steps p.tables e below (T'.setTop (mkF m 118 #[.val (.int x0), .val (.int x1), .val (.int (f0_v1 x0 x1)), .val (.int (f0_j4 x0 x1)), .val (.int (f0_j10 x0 x1)), .val (.int (f0_j16 x0 x1)), .val (.int (f0_v21 x0 x1)), .val (.int (f0_j53 x0 x1)), .val (.int (f0_v57 x0 x1)), .unset] [(.int (f0_j62 x0 x1))])) t → Steps p.tables e below (s₁.setTop (entryFrame m #[(.int x0), (.int x1)] maxLocals)) t := by
        rcases Bool.eq_false_or_eq_true (if_icmp.holds .ne (f0_v57 x0 x1) (2 : Int32)) with hc61 | hc61
        · have pre64 : ∀ t, Steps p.tables e below (T56.setTop (mkF m 118 #[.val (.int x0), .val (.int x1), .val (.int (f0_v1 x0 x1)), .val (.int (f0_j4 x0 x1)), .val (.int (f0_j10 x0 x1)), .val (.int (f0_j16 x0 x1)), .val (.int (f0_v21 x0 x1)), .val (.int (f0_j53 x0 x1)), .val (.int (f0_v57 x0 x1)), .unset] [(.int (0 : Int32))])) t → Steps p.tables e below (s₁.setTop (entryFrame m #[(.int x0), (.int x1)] maxLocals)) t := by
            intro t k
            refine pre60 _ ?_
            show Steps p.tables e below (T56.setTop (mkF m 110 #[.val (.int x0), .val (.int x1), .val (.int (f0_v1 x0 x1)), .val (.int (f0_j4 x0 x1)), .val (.int (f0_j10 x0 x1)), .val (.int (f0_j16 x0 x1)), .val (.int (f0_v21 x0 x1)), .val (.int (f0_j53 x0 x1)), .val (.int (f0_v57 x0 x1)), .unset] [(.int (2 : Int32)), (.int (f0_v57 x0 x1))])) _
            refine XS.icmpYes X56.here hx rfl (pc0 := 110) (pc' := 117) rfl (hb hby at_110) rfl hc61 (by decide) (by decide) ?_
            show Steps p.tables e below (T56.setTop (mkF m 117 #[.val (.int x0), .val (.int x1), .val (.int (f0_v1 x0 x1)), .val (.int (f0_j4 x0 x1)), .val (.int (f0_j10 x0 x1)), .val (.int (f0_j16 x0 x1)), .val (.int (f0_v21 x0 x1)), .val (.int (f0_j53 x0 x1)), .val (.int (f0_v57 x0 x1)), .unset] [])) _
            refine XS.iconst X56.here hx rfl (hb hby at_117) ?_
            exact k
          have qj0 : (f0_j62 x0 x1) = (0 : Int32) := if_pos hc61
          refine ⟨T56, _, X56, N56, e56, fun t k => pre64 _ ?_⟩
          rw [qj0] at k
          exact k
        · have pre65 : ∀ t, Steps p.tables e below (T56.setTop (mkF m 118 #[.val (.int x0), .val (.int x1), .val (.int (f0_v1 x0 x1)), .val (.int (f0_j4 x0 x1)), .val (.int (f0_j10 x0 x1)), .val (.int (f0_j16 x0 x1)), .val (.int (f0_v21 x0 x1)), .val (.int (f0_j53 x0 x1)), .val (.int (f0_v57 x0 x1)), .unset] [(.int (1 : Int32))])) t → Steps p.tables e below (s₁.setTop (entryFrame m #[(.int x0), (.int x1)] maxLocals)) t := by
            intro t k
            refine pre60 _ ?_
            show Steps p.tables e below (T56.setTop (mkF m 110 #[.val (.int x0), .val (.int x1), .val (.int (f0_v1 x0 x1)), .val (.int (f0_j4 x0 x1)), .val (.int (f0_j10 x0 x1)), .val (.int (f0_j16 x0 x1)), .val (.int (f0_v21 x0 x1)), .val (.int (f0_j53 x0 x1)), .val (.int (f0_v57 x0 x1)), .unset] [(.int (2 : Int32)), (.int (f0_v57 x0 x1))])) _
            refine XS.icmpNo X56.here hx rfl (hb hby at_110) rfl hc61 ?_
            show Steps p.tables e below (T56.setTop (mkF m 113 #[.val (.int x0), .val (.int x1), .val (.int (f0_v1 x0 x1)), .val (.int (f0_j4 x0 x1)), .val (.int (f0_j10 x0 x1)), .val (.int (f0_j16 x0 x1)), .val (.int (f0_v21 x0 x1)), .val (.int (f0_j53 x0 x1)), .val (.int (f0_v57 x0 x1)), .unset] [])) _
            refine XS.iconst X56.here hx rfl (hb hby at_113) ?_
            show Steps p.tables e below (T56.setTop (mkF m 114 #[.val (.int x0), .val (.int x1), .val (.int (f0_v1 x0 x1)), .val (.int (f0_j4 x0 x1)), .val (.int (f0_j10 x0 x1)), .val (.int (f0_j16 x0 x1)), .val (.int (f0_v21 x0 x1)), .val (.int (f0_j53 x0 x1)), .val (.int (f0_v57 x0 x1)), .unset] [(.int (1 : Int32))])) _
            refine XS.goto X56.here hx rfl (pc0 := 114) (pc' := 118) rfl (hb hby at_114) (by decide) (by decide) ?_
            exact k
          have qj0 : (f0_j62 x0 x1) = (1 : Int32) := if_neg (own_nt hc61)
          refine ⟨T56, _, X56, N56, e56, fun t k => pre65 _ ?_⟩
          rw [qj0] at k
          exact k
      have qj0 : (f0_j66 x0 x1) = (f0_j62 x0 x1) := if_neg (own_nt hc59)
      refine ⟨T63, _, X63, N63, e63, fun t k => pre63 _ ?_⟩
      rw [qj0] at k
      exact k
  have pre69 : ∀ t, Steps p.tables e below (T67.setTop (mkF m 124 #[.val (.int x0), .val (.int x1), .val (.int (f0_v1 x0 x1)), .val (.int (f0_j4 x0 x1)), .val (.int (f0_j10 x0 x1)), .val (.int (f0_j16 x0 x1)), .val (.int (f0_v21 x0 x1)), .val (.int (f0_j53 x0 x1)), .val (.int (f0_v57 x0 x1)), .val (.int (f0_j66 x0 x1))] [(.int (f0_j53 x0 x1)), (.int (f0_v21 x0 x1))])) t → Steps p.tables e below (s₁.setTop (entryFrame m #[(.int x0), (.int x1)] maxLocals)) t := by
    intro t k
    refine pre67 _ ?_
    show Steps p.tables e below (T67.setTop (mkF m 118 #[.val (.int x0), .val (.int x1), .val (.int (f0_v1 x0 x1)), .val (.int (f0_j4 x0 x1)), .val (.int (f0_j10 x0 x1)), .val (.int (f0_j16 x0 x1)), .val (.int (f0_v21 x0 x1)), .val (.int (f0_j53 x0 x1)), .val (.int (f0_v57 x0 x1)), .unset] [(.int (f0_j66 x0 x1))])) _
    refine XS.istore X67.here hx rfl (hb hby at_118) rfl (l' := #[.val (.int x0), .val (.int x1), .val (.int (f0_v1 x0 x1)), .val (.int (f0_j4 x0 x1)), .val (.int (f0_j10 x0 x1)), .val (.int (f0_j16 x0 x1)), .val (.int (f0_v21 x0 x1)), .val (.int (f0_j53 x0 x1)), .val (.int (f0_v57 x0 x1)), .val (.int (f0_j66 x0 x1))]) rfl ?_
    show Steps p.tables e below (T67.setTop (mkF m 120 #[.val (.int x0), .val (.int x1), .val (.int (f0_v1 x0 x1)), .val (.int (f0_j4 x0 x1)), .val (.int (f0_j10 x0 x1)), .val (.int (f0_j16 x0 x1)), .val (.int (f0_v21 x0 x1)), .val (.int (f0_j53 x0 x1)), .val (.int (f0_v57 x0 x1)), .val (.int (f0_j66 x0 x1))] [])) _
    refine XS.iload X67.here hx rfl (hb hby at_120) rfl ?_
    show Steps p.tables e below (T67.setTop (mkF m 122 #[.val (.int x0), .val (.int x1), .val (.int (f0_v1 x0 x1)), .val (.int (f0_j4 x0 x1)), .val (.int (f0_j10 x0 x1)), .val (.int (f0_j16 x0 x1)), .val (.int (f0_v21 x0 x1)), .val (.int (f0_j53 x0 x1)), .val (.int (f0_v57 x0 x1)), .val (.int (f0_j66 x0 x1))] [(.int (f0_v21 x0 x1))])) _
    refine XS.iload X67.here hx rfl (hb hby at_122) rfl ?_
    exact k
  obtain ⟨T90, L90, X90, N90, e90, pre90⟩ : ∃ (T' : State) (L' : List Loc), Stand p l e room_1 s m #[(.int x0), (.int x1)] below meth c T' L' 0 0 ∧ Fr n0 L' ∧ T'.heap = h0 ∧ ∀ t, Steps p.tables e below (T'.setTop (mkF m 156 #[.val (.int x0), .val (.int x1), .val (.int (f0_v1 x0 x1)), .val (.int (f0_j4 x0 x1)), .val (.int (f0_j10 x0 x1)), .val (.int (f0_j16 x0 x1)), .val (.int (f0_v21 x0 x1)), .val (.int (f0_j53 x0 x1)), .val (.int (f0_v57 x0 x1)), .val (.int (f0_j66 x0 x1))] [(.int (f0_j89 x0 x1))])) t → Steps p.tables e below (s₁.setTop (entryFrame m #[(.int x0), (.int x1)] maxLocals)) t := by
    rcases Bool.eq_false_or_eq_true (if_icmp.holds .ne (f0_v21 x0 x1) (f0_j53 x0 x1)) with hc70 | hc70
    · have pre91 : ∀ t, Steps p.tables e below (T67.setTop (mkF m 156 #[.val (.int x0), .val (.int x1), .val (.int (f0_v1 x0 x1)), .val (.int (f0_j4 x0 x1)), .val (.int (f0_j10 x0 x1)), .val (.int (f0_j16 x0 x1)), .val (.int (f0_v21 x0 x1)), .val (.int (f0_j53 x0 x1)), .val (.int (f0_v57 x0 x1)), .val (.int (f0_j66 x0 x1))] [(.int (0 : Int32))])) t → Steps p.tables e below (s₁.setTop (entryFrame m #[(.int x0), (.int x1)] maxLocals)) t := by
        intro t k
        refine pre69 _ ?_
        show Steps p.tables e below (T67.setTop (mkF m 124 #[.val (.int x0), .val (.int x1), .val (.int (f0_v1 x0 x1)), .val (.int (f0_j4 x0 x1)), .val (.int (f0_j10 x0 x1)), .val (.int (f0_j16 x0 x1)), .val (.int (f0_v21 x0 x1)), .val (.int (f0_j53 x0 x1)), .val (.int (f0_v57 x0 x1)), .val (.int (f0_j66 x0 x1))] [(.int (f0_j53 x0 x1)), (.int (f0_v21 x0 x1))])) _
        refine XS.icmpYes X67.here hx rfl (pc0 := 124) (pc' := 155) rfl (hb hby at_124) rfl hc70 (by decide) (by decide) ?_
        show Steps p.tables e below (T67.setTop (mkF m 155 #[.val (.int x0), .val (.int x1), .val (.int (f0_v1 x0 x1)), .val (.int (f0_j4 x0 x1)), .val (.int (f0_j10 x0 x1)), .val (.int (f0_j16 x0 x1)), .val (.int (f0_v21 x0 x1)), .val (.int (f0_j53 x0 x1)), .val (.int (f0_v57 x0 x1)), .val (.int (f0_j66 x0 x1))] [])) _
        refine XS.iconst X67.here hx rfl (hb hby at_155) ?_
        exact k
      have qj0 : (f0_j89 x0 x1) = (0 : Int32) := if_pos hc70
      refine ⟨T67, _, X67, N67, e67, fun t k => pre91 _ ?_⟩
      rw [qj0] at k
      exact k
    · obtain ⟨_, _, ⟨T71, L71, k71, n71⟩, -, X71, ⟨Lc71, hQ71, l71, y71, z71⟩, st71⟩ := Jvm.LawKit.callS X67 hx (y := (⟨"dev/stratumaudio/BlockSwitchingBlockTypePinLaw", "legal", "(II)Z"⟩ : MethodName)) hown (mvT hZ (hw _ (List.mem_of_getElem? (i := 4) rfl))) (mvT hZ (hw _ (List.mem_of_getElem? (i := 5) rfl))) (mvT hZ (hw _ (List.mem_of_getElem? (i := 6) rfl))) (mvT hZ (hw _ (List.mem_of_getElem? (i := 7) rfl))) (by decide) (backOf (W := 0) (rm2 l Z a0 hw [] (f0_v1 x0 x1) (f0_v21 x0 x1) h0 n0 Z0) hZ (hw _ (List.mem_of_getElem? (i := 7) rfl)) (hw _ (List.mem_of_getElem? (i := 6) rfl)) (by decide) (by decide)) (g := (mkF m 130 #[.val (.int x0), .val (.int x1), .val (.int (f0_v1 x0 x1)), .val (.int (f0_j4 x0 x1)), .val (.int (f0_j10 x0 x1)), .val (.int (f0_j16 x0 x1)), .val (.int (f0_v21 x0 x1)), .val (.int (f0_j53 x0 x1)), .val (.int (f0_v57 x0 x1)), .val (.int (f0_j66 x0 x1))] [(.int (f0_v21 x0 x1)), (.int (f0_v1 x0 x1))])) rfl (by rw [hml]; rfl) (argsL := [(.int (f0_v1 x0 x1)), (.int (f0_v21 x0 x1))]) (rest := []) (lenOf pd_2 rfl) rfl (by show 2 * 0 + _ ≤ _; exact Nat.le_of_eq rfl) (hb hby at_130) (fun _ _ => ⟨rfl, e67, (by decide : 0 + 0 ≤ _), (by decide : 0 + 0 ≤ _)⟩)
      dsimp only [Pt.U, Pt.locs, Pt.cells, Pt.slots] at X71 l71 y71 z71 st71 hQ71
      subst l71 y71 z71
      obtain ⟨rfl, Nq71, e71⟩ := hQ71
      have N71 := Fr.app N67 Nq71
      have pre72 : ∀ t, Steps p.tables e below (T71.setTop (mkF m 133 #[.val (.int x0), .val (.int x1), .val (.int (f0_v1 x0 x1)), .val (.int (f0_j4 x0 x1)), .val (.int (f0_j10 x0 x1)), .val (.int (f0_j16 x0 x1)), .val (.int (f0_v21 x0 x1)), .val (.int (f0_j53 x0 x1)), .val (.int (f0_v57 x0 x1)), .val (.int (f0_j66 x0 x1))] [(.int (f2 (f0_v1 x0 x1) (f0_v21 x0 x1)))])) t → Steps p.tables e below (s₁.setTop (entryFrame m #[(.int x0), (.int x1)] maxLocals)) t := by
        intro t k
        refine pre69 _ ?_
        show Steps p.tables e below (T67.setTop (mkF m 124 #[.val (.int x0), .val (.int x1), .val (.int (f0_v1 x0 x1)), .val (.int (f0_j4 x0 x1)), .val (.int (f0_j10 x0 x1)), .val (.int (f0_j16 x0 x1)), .val (.int (f0_v21 x0 x1)), .val (.int (f0_j53 x0 x1)), .val (.int (f0_v57 x0 x1)), .val (.int (f0_j66 x0 x1))] [(.int (f0_j53 x0 x1)), (.int (f0_v21 x0 x1))])) _
        refine XS.icmpNo X67.here hx rfl (hb hby at_124) rfl hc70 ?_
        show Steps p.tables e below (T67.setTop (mkF m 127 #[.val (.int x0), .val (.int x1), .val (.int (f0_v1 x0 x1)), .val (.int (f0_j4 x0 x1)), .val (.int (f0_j10 x0 x1)), .val (.int (f0_j16 x0 x1)), .val (.int (f0_v21 x0 x1)), .val (.int (f0_j53 x0 x1)), .val (.int (f0_v57 x0 x1)), .val (.int (f0_j66 x0 x1))] [])) _
        refine XS.iloadN X67.here hx rfl (hb hby at_127) rfl ?_
        show Steps p.tables e below (T67.setTop (mkF m 128 #[.val (.int x0), .val (.int x1), .val (.int (f0_v1 x0 x1)), .val (.int (f0_j4 x0 x1)), .val (.int (f0_j10 x0 x1)), .val (.int (f0_j16 x0 x1)), .val (.int (f0_v21 x0 x1)), .val (.int (f0_j53 x0 x1)), .val (.int (f0_v57 x0 x1)), .val (.int (f0_j66 x0 x1))] [(.int (f0_v1 x0 x1))])) _
        refine XS.iload X67.here hx rfl (hb hby at_128) rfl ?_
        show Steps p.tables e below (T67.setTop (mkF m 130 #[.val (.int x0), .val (.int x1), .val (.int (f0_v1 x0 x1)), .val (.int (f0_j4 x0 x1)), .val (.int (f0_j10 x0 x1)), .val (.int (f0_j16 x0 x1)), .val (.int (f0_v21 x0 x1)), .val (.int (f0_j53 x0 x1)), .val (.int (f0_v57 x0 x1)), .val (.int (f0_j66 x0 x1))] [(.int (f0_v21 x0 x1)), (.int (f0_v1 x0 x1))])) _
        refine st71 _ ?_
        exact k
      obtain ⟨T87, L87, X87, N87, e87, pre87⟩ : ∃ (T' : State) (L' : List Loc), Stand p l e room_1 s m #[(.int x0), (.int x1)] below meth c T' L' 0 0 ∧ Fr n0 L' ∧ T'.heap = h0 ∧ ∀ t, Steps p.tables e below (T'.setTop (mkF m 156 #[.val (.int x0), .val (.int x1), .val (.int (f0_v1 x0 x1)), .val (.int (f0_j4 x0 x1)), .val (.int (f0_j10 x0 x1)), .val (.int (f0_j16 x0 x1)), .val (.int (f0_v21 x0 x1)), .val (.int (f0_j53 x0 x1)), .val (.int (f0_v57 x0 x1)), .val (.int (f0_j66 x0 x1))] [(.int (f0_j86 x0 x1))])) t → Steps p.tables e below (s₁.setTop (entryFrame m #[(.int x0), (.int x1)] maxLocals)) t := by
        rcases Bool.eq_false_or_eq_true (ifCond.holds .eq (f2 (f0_v1 x0 x1) (f0_v21 x0 x1))) with hc73 | hc73
        · have pre88 : ∀ t, Steps p.tables e below (T71.setTop (mkF m 156 #[.val (.int x0), .val (.int x1), .val (.int (f0_v1 x0 x1)), .val (.int (f0_j4 x0 x1)), .val (.int (f0_j10 x0 x1)), .val (.int (f0_j16 x0 x1)), .val (.int (f0_v21 x0 x1)), .val (.int (f0_j53 x0 x1)), .val (.int (f0_v57 x0 x1)), .val (.int (f0_j66 x0 x1))] [(.int (0 : Int32))])) t → Steps p.tables e below (s₁.setTop (entryFrame m #[(.int x0), (.int x1)] maxLocals)) t := by
            intro t k
            refine pre72 _ ?_
            show Steps p.tables e below (T71.setTop (mkF m 133 #[.val (.int x0), .val (.int x1), .val (.int (f0_v1 x0 x1)), .val (.int (f0_j4 x0 x1)), .val (.int (f0_j10 x0 x1)), .val (.int (f0_j16 x0 x1)), .val (.int (f0_v21 x0 x1)), .val (.int (f0_j53 x0 x1)), .val (.int (f0_v57 x0 x1)), .val (.int (f0_j66 x0 x1))] [(.int (f2 (f0_v1 x0 x1) (f0_v21 x0 x1)))])) _
            refine XS.ifYes X71.here hx rfl (pc0 := 133) (pc' := 155) rfl (hb hby at_133) rfl hc73 (by decide) (by decide) ?_
            show Steps p.tables e below (T71.setTop (mkF m 155 #[.val (.int x0), .val (.int x1), .val (.int (f0_v1 x0 x1)), .val (.int (f0_j4 x0 x1)), .val (.int (f0_j10 x0 x1)), .val (.int (f0_j16 x0 x1)), .val (.int (f0_v21 x0 x1)), .val (.int (f0_j53 x0 x1)), .val (.int (f0_v57 x0 x1)), .val (.int (f0_j66 x0 x1))] [])) _
            refine XS.iconst X71.here hx rfl (hb hby at_155) ?_
            exact k
          have qj0 : (f0_j86 x0 x1) = (0 : Int32) := if_pos hc73
          refine ⟨T71, _, X71, N71, e71, fun t k => pre88 _ ?_⟩
          rw [qj0] at k
          exact k
        · obtain ⟨_, _, ⟨T74, L74, k74, n74⟩, -, X74, ⟨Lc74, hQ74, l74, y74, z74⟩, st74⟩ := Jvm.LawKit.callS X71 hx (y := (⟨"dev/stratumaudio/BlockSwitchingBlockTypePinLaw", "legal", "(II)Z"⟩ : MethodName)) hown (mvT hZ (hw _ (List.mem_of_getElem? (i := 4) rfl))) (mvT hZ (hw _ (List.mem_of_getElem? (i := 5) rfl))) (mvT hZ (hw _ (List.mem_of_getElem? (i := 6) rfl))) (mvT hZ (hw _ (List.mem_of_getElem? (i := 7) rfl))) (by decide) (backOf (W := 0) (rm2 l Z a0 hw [] (f0_v21 x0 x1) (f0_v57 x0 x1) h0 n0 Z0) hZ (hw _ (List.mem_of_getElem? (i := 7) rfl)) (hw _ (List.mem_of_getElem? (i := 6) rfl)) (by decide) (by decide)) (g := (mkF m 140 #[.val (.int x0), .val (.int x1), .val (.int (f0_v1 x0 x1)), .val (.int (f0_j4 x0 x1)), .val (.int (f0_j10 x0 x1)), .val (.int (f0_j16 x0 x1)), .val (.int (f0_v21 x0 x1)), .val (.int (f0_j53 x0 x1)), .val (.int (f0_v57 x0 x1)), .val (.int (f0_j66 x0 x1))] [(.int (f0_v57 x0 x1)), (.int (f0_v21 x0 x1))])) rfl (by rw [hml]; rfl) (argsL := [(.int (f0_v21 x0 x1)), (.int (f0_v57 x0 x1))]) (rest := []) (lenOf pd_2 rfl) rfl (by show 2 * 0 + _ ≤ _; exact Nat.le_of_eq rfl) (hb hby at_140) (fun _ _ => ⟨rfl, e71, (by decide : 0 + 0 ≤ _), (by decide : 0 + 0 ≤ _)⟩)
          dsimp only [Pt.U, Pt.locs, Pt.cells, Pt.slots] at X74 l74 y74 z74 st74 hQ74
          subst l74 y74 z74
          obtain ⟨rfl, Nq74, e74⟩ := hQ74
          have N74 := Fr.app N71 Nq74
          have pre75 : ∀ t, Steps p.tables e below (T74.setTop (mkF m 143 #[.val (.int x0), .val (.int x1), .val (.int (f0_v1 x0 x1)), .val (.int (f0_j4 x0 x1)), .val (.int (f0_j10 x0 x1)), .val (.int (f0_j16 x0 x1)), .val (.int (f0_v21 x0 x1)), .val (.int (f0_j53 x0 x1)), .val (.int (f0_v57 x0 x1)), .val (.int (f0_j66 x0 x1))] [(.int (f2 (f0_v21 x0 x1) (f0_v57 x0 x1)))])) t → Steps p.tables e below (s₁.setTop (entryFrame m #[(.int x0), (.int x1)] maxLocals)) t := by
            intro t k
            refine pre72 _ ?_
            show Steps p.tables e below (T71.setTop (mkF m 133 #[.val (.int x0), .val (.int x1), .val (.int (f0_v1 x0 x1)), .val (.int (f0_j4 x0 x1)), .val (.int (f0_j10 x0 x1)), .val (.int (f0_j16 x0 x1)), .val (.int (f0_v21 x0 x1)), .val (.int (f0_j53 x0 x1)), .val (.int (f0_v57 x0 x1)), .val (.int (f0_j66 x0 x1))] [(.int (f2 (f0_v1 x0 x1) (f0_v21 x0 x1)))])) _
            refine XS.ifNo X71.here hx rfl (hb hby at_133) rfl hc73 ?_
            show Steps p.tables e below (T71.setTop (mkF m 136 #[.val (.int x0), .val (.int x1), .val (.int (f0_v1 x0 x1)), .val (.int (f0_j4 x0 x1)), .val (.int (f0_j10 x0 x1)), .val (.int (f0_j16 x0 x1)), .val (.int (f0_v21 x0 x1)), .val (.int (f0_j53 x0 x1)), .val (.int (f0_v57 x0 x1)), .val (.int (f0_j66 x0 x1))] [])) _
            refine XS.iload X71.here hx rfl (hb hby at_136) rfl ?_
            show Steps p.tables e below (T71.setTop (mkF m 138 #[.val (.int x0), .val (.int x1), .val (.int (f0_v1 x0 x1)), .val (.int (f0_j4 x0 x1)), .val (.int (f0_j10 x0 x1)), .val (.int (f0_j16 x0 x1)), .val (.int (f0_v21 x0 x1)), .val (.int (f0_j53 x0 x1)), .val (.int (f0_v57 x0 x1)), .val (.int (f0_j66 x0 x1))] [(.int (f0_v21 x0 x1))])) _
            refine XS.iload X71.here hx rfl (hb hby at_138) rfl ?_
            show Steps p.tables e below (T71.setTop (mkF m 140 #[.val (.int x0), .val (.int x1), .val (.int (f0_v1 x0 x1)), .val (.int (f0_j4 x0 x1)), .val (.int (f0_j10 x0 x1)), .val (.int (f0_j16 x0 x1)), .val (.int (f0_v21 x0 x1)), .val (.int (f0_j53 x0 x1)), .val (.int (f0_v57 x0 x1)), .val (.int (f0_j66 x0 x1))] [(.int (f0_v57 x0 x1)), (.int (f0_v21 x0 x1))])) _
            refine st74 _ ?_
            exact k
          obtain ⟨T84, L84, X84, N84, e84, pre84⟩ : ∃ (T' : State) (L' : List Loc), Stand p l e room_1 s m #[(.int x0), (.int x1)] below meth c T' L' 0 0 ∧ Fr n0 L' ∧ T'.heap = h0 ∧ ∀ t, Steps p.tables e below (T'.setTop (mkF m 156 #[.val (.int x0), .val (.int x1), .val (.int (f0_v1 x0 x1)), .val (.int (f0_j4 x0 x1)), .val (.int (f0_j10 x0 x1)), .val (.int (f0_j16 x0 x1)), .val (.int (f0_v21 x0 x1)), .val (.int (f0_j53 x0 x1)), .val (.int (f0_v57 x0 x1)), .val (.int (f0_j66 x0 x1))] [(.int (f0_j83 x0 x1))])) t → Steps p.tables e below (s₁.setTop (entryFrame m #[(.int x0), (.int x1)] maxLocals)) t := by
            rcases Bool.eq_false_or_eq_true (ifCond.holds .eq (f2 (f0_v21 x0 x1) (f0_v57 x0 x1))) with hc76 | hc76
            · have pre85 : ∀ t, Steps p.tables e below (T74.setTop (mkF m 156 #[.val (.int x0), .val (.int x1), .val (.int (f0_v1 x0 x1)), .val (.int (f0_j4 x0 x1)), .val (.int (f0_j10 x0 x1)), .val (.int (f0_j16 x0 x1)), .val (.int (f0_v21 x0 x1)), .val (.int (f0_j53 x0 x1)), .val (.int (f0_v57 x0 x1)), .val (.int (f0_j66 x0 x1))] [(.int (0 : Int32))])) t → Steps p.tables e below (s₁.setTop (entryFrame m #[(.int x0), (.int x1)] maxLocals)) t := by
                intro t k
                refine pre75 _ ?_
                show Steps p.tables e below (T74.setTop (mkF m 143 #[.val (.int x0), .val (.int x1), .val (.int (f0_v1 x0 x1)), .val (.int (f0_j4 x0 x1)), .val (.int (f0_j10 x0 x1)), .val (.int (f0_j16 x0 x1)), .val (.int (f0_v21 x0 x1)), .val (.int (f0_j53 x0 x1)), .val (.int (f0_v57 x0 x1)), .val (.int (f0_j66 x0 x1))] [(.int (f2 (f0_v21 x0 x1) (f0_v57 x0 x1)))])) _
                refine XS.ifYes X74.here hx rfl (pc0 := 143) (pc' := 155) rfl (hb hby at_143) rfl hc76 (by decide) (by decide) ?_
                show Steps p.tables e below (T74.setTop (mkF m 155 #[.val (.int x0), .val (.int x1), .val (.int (f0_v1 x0 x1)), .val (.int (f0_j4 x0 x1)), .val (.int (f0_j10 x0 x1)), .val (.int (f0_j16 x0 x1)), .val (.int (f0_v21 x0 x1)), .val (.int (f0_j53 x0 x1)), .val (.int (f0_v57 x0 x1)), .val (.int (f0_j66 x0 x1))] [])) _
                refine XS.iconst X74.here hx rfl (hb hby at_155) ?_
                exact k
              have qj0 : (f0_j83 x0 x1) = (0 : Int32) := if_pos hc76
              refine ⟨T74, _, X74, N74, e74, fun t k => pre85 _ ?_⟩
              rw [qj0] at k
              exact k
            · have pre77 : ∀ t, Steps p.tables e below (T74.setTop (mkF m 148 #[.val (.int x0), .val (.int x1), .val (.int (f0_v1 x0 x1)), .val (.int (f0_j4 x0 x1)), .val (.int (f0_j10 x0 x1)), .val (.int (f0_j16 x0 x1)), .val (.int (f0_v21 x0 x1)), .val (.int (f0_j53 x0 x1)), .val (.int (f0_v57 x0 x1)), .val (.int (f0_j66 x0 x1))] [(.int (f0_j66 x0 x1))])) t → Steps p.tables e below (s₁.setTop (entryFrame m #[(.int x0), (.int x1)] maxLocals)) t := by
                intro t k
                refine pre75 _ ?_
                show Steps p.tables e below (T74.setTop (mkF m 143 #[.val (.int x0), .val (.int x1), .val (.int (f0_v1 x0 x1)), .val (.int (f0_j4 x0 x1)), .val (.int (f0_j10 x0 x1)), .val (.int (f0_j16 x0 x1)), .val (.int (f0_v21 x0 x1)), .val (.int (f0_j53 x0 x1)), .val (.int (f0_v57 x0 x1)), .val (.int (f0_j66 x0 x1))] [(.int (f2 (f0_v21 x0 x1) (f0_v57 x0 x1)))])) _
                refine XS.ifNo X74.here hx rfl (hb hby at_143) rfl hc76 ?_
                show Steps p.tables e below (T74.setTop (mkF m 146 #[.val (.int x0), .val (.int x1), .val (.int (f0_v1 x0 x1)), .val (.int (f0_j4 x0 x1)), .val (.int (f0_j10 x0 x1)), .val (.int (f0_j16 x0 x1)), .val (.int (f0_v21 x0 x1)), .val (.int (f0_j53 x0 x1)), .val (.int (f0_v57 x0 x1)), .val (.int (f0_j66 x0 x1))] [])) _
                refine XS.iload X74.here hx rfl (hb hby at_146) rfl ?_
                exact k
              obtain ⟨T80, L80, X80, N80, e80, pre80⟩ : ∃ (T' : State) (L' : List Loc), Stand p l e room_1 s m #[(.int x0), (.int x1)] below meth c T' L' 0 0 ∧ Fr n0 L' ∧ T'.heap = h0 ∧ ∀ t, Steps p.tables e below (T'.setTop (mkF m 156 #[.val (.int x0), .val (.int x1), .val (.int (f0_v1 x0 x1)), .val (.int (f0_j4 x0 x1)), .val (.int (f0_j10 x0 x1)), .val (.int (f0_j16 x0 x1)), .val (.int (f0_v21 x0 x1)), .val (.int (f0_j53 x0 x1)), .val (.int (f0_v57 x0 x1)), .val (.int (f0_j66 x0 x1))] [(.int (f0_j79 x0 x1))])) t → Steps p.tables e below (s₁.setTop (entryFrame m #[(.int x0), (.int x1)] maxLocals)) t := by
                rcases Bool.eq_false_or_eq_true (ifCond.holds .eq (f0_j66 x0 x1)) with hc78 | hc78
                · have pre81 : ∀ t, Steps p.tables e below (T74.setTop (mkF m 156 #[.val (.int x0), .val (.int x1), .val (.int (f0_v1 x0 x1)), .val (.int (f0_j4 x0 x1)), .val (.int (f0_j10 x0 x1)), .val (.int (f0_j16 x0 x1)), .val (.int (f0_v21 x0 x1)), .val (.int (f0_j53 x0 x1)), .val (.int (f0_v57 x0 x1)), .val (.int (f0_j66 x0 x1))] [(.int (0 : Int32))])) t → Steps p.tables e below (s₁.setTop (entryFrame m #[(.int x0), (.int x1)] maxLocals)) t := by
                    intro t k
                    refine pre77 _ ?_
                    show Steps p.tables e below (T74.setTop (mkF m 148 #[.val (.int x0), .val (.int x1), .val (.int (f0_v1 x0 x1)), .val (.int (f0_j4 x0 x1)), .val (.int (f0_j10 x0 x1)), .val (.int (f0_j16 x0 x1)), .val (.int (f0_v21 x0 x1)), .val (.int (f0_j53 x0 x1)), .val (.int (f0_v57 x0 x1)), .val (.int (f0_j66 x0 x1))] [(.int (f0_j66 x0 x1))])) _
                    refine XS.ifYes X74.here hx rfl (pc0 := 148) (pc' := 155) rfl (hb hby at_148) rfl hc78 (by decide) (by decide) ?_
                    show Steps p.tables e below (T74.setTop (mkF m 155 #[.val (.int x0), .val (.int x1), .val (.int (f0_v1 x0 x1)), .val (.int (f0_j4 x0 x1)), .val (.int (f0_j10 x0 x1)), .val (.int (f0_j16 x0 x1)), .val (.int (f0_v21 x0 x1)), .val (.int (f0_j53 x0 x1)), .val (.int (f0_v57 x0 x1)), .val (.int (f0_j66 x0 x1))] [])) _
                    refine XS.iconst X74.here hx rfl (hb hby at_155) ?_
                    exact k
                  have qj0 : (f0_j79 x0 x1) = (0 : Int32) := if_pos hc78
                  refine ⟨T74, _, X74, N74, e74, fun t k => pre81 _ ?_⟩
                  rw [qj0] at k
                  exact k
                · have pre82 : ∀ t, Steps p.tables e below (T74.setTop (mkF m 156 #[.val (.int x0), .val (.int x1), .val (.int (f0_v1 x0 x1)), .val (.int (f0_j4 x0 x1)), .val (.int (f0_j10 x0 x1)), .val (.int (f0_j16 x0 x1)), .val (.int (f0_v21 x0 x1)), .val (.int (f0_j53 x0 x1)), .val (.int (f0_v57 x0 x1)), .val (.int (f0_j66 x0 x1))] [(.int (1 : Int32))])) t → Steps p.tables e below (s₁.setTop (entryFrame m #[(.int x0), (.int x1)] maxLocals)) t := by
                    intro t k
                    refine pre77 _ ?_
                    show Steps p.tables e below (T74.setTop (mkF m 148 #[.val (.int x0), .val (.int x1), .val (.int (f0_v1 x0 x1)), .val (.int (f0_j4 x0 x1)), .val (.int (f0_j10 x0 x1)), .val (.int (f0_j16 x0 x1)), .val (.int (f0_v21 x0 x1)), .val (.int (f0_j53 x0 x1)), .val (.int (f0_v57 x0 x1)), .val (.int (f0_j66 x0 x1))] [(.int (f0_j66 x0 x1))])) _
                    refine XS.ifNo X74.here hx rfl (hb hby at_148) rfl hc78 ?_
                    show Steps p.tables e below (T74.setTop (mkF m 151 #[.val (.int x0), .val (.int x1), .val (.int (f0_v1 x0 x1)), .val (.int (f0_j4 x0 x1)), .val (.int (f0_j10 x0 x1)), .val (.int (f0_j16 x0 x1)), .val (.int (f0_v21 x0 x1)), .val (.int (f0_j53 x0 x1)), .val (.int (f0_v57 x0 x1)), .val (.int (f0_j66 x0 x1))] [])) _
                    refine XS.iconst X74.here hx rfl (hb hby at_151) ?_
                    show Steps p.tables e below (T74.setTop (mkF m 152 #[.val (.int x0), .val (.int x1), .val (.int (f0_v1 x0 x1)), .val (.int (f0_j4 x0 x1)), .val (.int (f0_j10 x0 x1)), .val (.int (f0_j16 x0 x1)), .val (.int (f0_v21 x0 x1)), .val (.int (f0_j53 x0 x1)), .val (.int (f0_v57 x0 x1)), .val (.int (f0_j66 x0 x1))] [(.int (1 : Int32))])) _
                    refine XS.goto X74.here hx rfl (pc0 := 152) (pc' := 156) rfl (hb hby at_152) (by decide) (by decide) ?_
                    exact k
                  have qj0 : (f0_j79 x0 x1) = (1 : Int32) := if_neg (own_nt hc78)
                  refine ⟨T74, _, X74, N74, e74, fun t k => pre82 _ ?_⟩
                  rw [qj0] at k
                  exact k
              have qj0 : (f0_j83 x0 x1) = (f0_j79 x0 x1) := if_neg (own_nt hc76)
              refine ⟨T80, _, X80, N80, e80, fun t k => pre80 _ ?_⟩
              rw [qj0] at k
              exact k
          have qj0 : (f0_j86 x0 x1) = (f0_j83 x0 x1) := if_neg (own_nt hc73)
          refine ⟨T84, _, X84, N84, e84, fun t k => pre84 _ ?_⟩
          rw [qj0] at k
          exact k
      have qj0 : (f0_j89 x0 x1) = (f0_j86 x0 x1) := if_neg (own_nt hc70)
      refine ⟨T87, _, X87, N87, e87, fun t k => pre87 _ ?_⟩
      rw [qj0] at k
      exact k
  obtain ⟨fs, hr, hrun, hended, hW, hsame⟩ := X90.leave (v := some (.int (nar .boolean (f0_j89 x0 x1)))) (fun h => by rw [hret] at h; cases h)
  refine ⟨_, _, pre90 _ ?_, hrun, hended, _, _, rfl, ?_, ⟨_, rfl⟩, hW, hsame.mono (by decide) (by decide)⟩
  · show Steps p.tables e below (T90.setTop (mkF m 156 #[.val (.int x0), .val (.int x1), .val (.int (f0_v1 x0 x1)), .val (.int (f0_j4 x0 x1)), .val (.int (f0_j10 x0 x1)), .val (.int (f0_j16 x0 x1)), .val (.int (f0_v21 x0 x1)), .val (.int (f0_j53 x0 x1)), .val (.int (f0_v57 x0 x1)), .val (.int (f0_j66 x0 x1))] [(.int (f0_j89 x0 x1))])) _
    exact retN X90 hx (t := .boolean) hret (by simp) (hb hby at_156) hr
  · show Q0 Z x0 x1 h0 n0 _ T90.heap _
    rw [e90]
    have rr : f0 x0 x1 = (nar .boolean (f0_j89 x0 x1)) := rfl
    exact ⟨congrArg (fun z => some (Value.int z)) rr.symm, N90⟩
theorem own_and3 (x : Int32) : x &&& 3 = 0 ∨ x &&& 3 = 1 ∨ x &&& 3 = 2 ∨ x &&& 3 = 3 := by
  have a1 : (x &&& (3 : Int32)).toInt = x.toInt % 4 := c_mask x 3 2 (by decide) (by decide)
  have e0 : (0 : Int32).toInt = 0 := rfl
  have e1 : (1 : Int32).toInt = 1 := rfl
  have e2 : (2 : Int32).toInt = 2 := rfl
  have e3 : (3 : Int32).toInt = 3 := rfl
  rw [← Int32.toInt_inj, ← Int32.toInt_inj, ← Int32.toInt_inj, ← Int32.toInt_inj]
  omega
theorem own_two {c : Prop} [Decidable c] : (if c then (0 : Int32) else 1) = 0 ∨ (if c then (0 : Int32) else 1) = 1 := by
  by_cases h : c
  · rw [if_pos h]; exact Or.inl rfl
  · rw [if_neg h]; exact Or.inr rfl
theorem own_law (x0 x1 : Int32) : f0 x0 x1 = 1 := by
  have h1 : f0_v1 x0 x1 = 0 ∨ f0_v1 x0 x1 = 1 ∨ f0_v1 x0 x1 = 2 ∨ f0_v1 x0 x1 = 3 := own_and3 x0
  have h2 : f0_j4 x0 x1 = 0 ∨ f0_j4 x0 x1 = 1 := own_two
  have h3 : f0_j10 x0 x1 = 0 ∨ f0_j10 x0 x1 = 1 := own_two
  have h4 : f0_j16 x0 x1 = 0 ∨ f0_j16 x0 x1 = 1 := own_two
  unfold f0 f0_j89 f0_j86 f0_j83 f0_j79 f0_j66 f0_j62 f0_v57 f0_j53 f0_j49 f0_j45 f0_j40 f0_j36 f0_j26 f0_v21
  rcases h1 with h1 | h1 | h1 | h1 <;> rcases h2 with h2 | h2 <;> rcases h3 with h3 | h3 <;> rcases h4 with h4 | h4 <;> rw [h1, h2, h3, h4] <;> decide +kernel
set_option maxRecDepth 65536 in
set_option maxHeartbeats 40000000 in
theorem comes_1 {Post : Tables → Env → Array Value → State → Outcome → State → Prop} (hpost : ∀ tb e args s v u, (limb_1_1.after args s (.returned v) u = true ∧ limb_1_2.after args s (.returned v) u = true ∧ True) → FrameEnd s (.returned v) u (Jvm.fieldLocs frame_1_writes args s ++ Jvm.arrayLocs frame_1_arrays args s ++ Jvm.staticLocs frame_1_statics s) 0 0 → Post tb e args s (.returned v) u) :
    ArmFor flags0 classFile x code maxLocals ret World_1 tables_1 room_1 Calls_1 rest_1 Pre_1 Post := by
  intro l hfl _ _ p e ha hc hk s m args below hf hA hF happ hP
  obtain ⟨hcalls, hrest, hpre⟩ := hP
  obtain ⟨-, -, -, hnamed, -, -, -, hat⟩ := (Spec.applies_iff hf).mp happ
  obtain ⟨hg, hn⟩ := and_e (Cond.before_iff.mp (show (Jvm.Cond.and given_1 narrow_1).before args s = true from hpre))
  obtain ⟨g1, g2⟩ := and_e hg
  obtain ⟨g3, g4⟩ := and_e g2
  obtain ⟨w0, w1, rfl⟩ : ∃ w0 w1 : Value, args = #[w0, w1] := by
    have hs : args.size = 2 := by simpa [Cond.value, given_1] using g1
    obtain ⟨L⟩ := args
    match L, hs with
    | [w0, w1], _ => exact ⟨w0, w1, rfl⟩
  have hw := fun d (hd : d ∈ tables_1) => atoms_spec (ws := Jvm.Cond.code x code maxLocals ret :: tables_1) hat d (List.mem_cons_of_mem _ hd)
  obtain ⟨i0, ei0⟩ := is_v g3
  obtain rfl : w0 = (.int i0) := Option.some.inj ei0
  obtain ⟨i1, ei1⟩ := is_v g4
  obtain rfl : w1 = (.int i1) := Option.some.inj ei1
  obtain ⟨n, o, h1, h2, h3, v, L, rfl, ⟨hv, N⟩, hq⟩ := rm0 l s _ hw tables_1 i0 i1 s.heap s.heap.size (Nat.le_refl _) p e ha hc hk s m _ below hf ((Spec.applies_iff_loose hf).mp happ).1 ⟨rfl, State.Warmed39.refl s, rfl⟩ trivial
  rw [own_law] at hv
  subst hv
  refine ⟨n, _, h1, h2, h3, hpost _ _ _ _ _ _ ⟨Cond.after_iff.mpr rfl, Cond.after_iff.mpr (eq_i res_at (Term.int_eval (1)) rfl), trivial⟩ ⟨hq.1, hq.2.1, (hq.2.2.sift fun y hy => Or.inr (N y hy)).mono (by decide) (by decide)⟩⟩
theorem main_1_1 : Claimed_1_1 := comes_1 fun _ _ _ _ _ _ h hF => ⟨h.1, hF⟩
theorem main_1_2 : Claimed_1_2 := comes_1 fun _ _ _ _ _ _ h hF => ⟨h.2.1, hF⟩
end Jvm.Pilot.@@N@@
namespace Jvm.Pilot.@@N@@
open Jvm Jvm.ClassFile Sem Op Lib Jvm.Free Jvm.Stand Jvm.Pilot.@@N@@.Jvm.D
/-! MADE BY PROGRAM (witnessworld.py) out of the Statement's table words and the real class files: 9 classes; the members and pool entries that the words name. The judged class is class 1, her method 3. -/
namespace start1
open Jvm.ClassFile
def u (s : String) : CpInfo := .utf8 (stringToUtf16 s)
/-- a pool by its gaps: so many unusable entries, then the entry; so many at the end -/
def gap : Nat → List CpInfo → List CpInfo
  | 0, r => r
  | n + 1, r => .unusable :: gap n r
def poolList (es : List (Nat × CpInfo)) (last : Nat) : List CpInfo := es.foldr (fun e r => gap e.1 (e.2 :: r)) (gap last [])
def pool (es : List (Nat × CpInfo)) (last : Nat) : Array CpInfo := ⟨poolList es last⟩
def fileOf (pool : Array CpInfo) (this : Nat) (attrs : Array Attribute := #[]) (ms : Array MethodInfo := #[]) (fl : Nat := 33) (sup : Nat := 0) (ifs : Array Nat := #[]) (fds : Array FieldInfo := #[]) : ClassFile where
  minorVersion := 0
  majorVersion := 65
  constantPool := pool
  accessFlags := fl
  thisClass := this
  superClass := sup
  interfaces := ifs
  fields := fds
  methods := ms
  attributes := attrs
def plain (name : String) (sup : Option ClassId) : Class where
  name := name
  kind := .ordinary
  loader := none
  accessFlags := 33
  super := sup
  interfaces := #[]
  cf := none
  fields := #[]
  methods := #[]
  instanceTypes := #[]
  staticTypes := #[]
  resolved := #[]
  callSites := []
  init := .initialized
  statics := none
  mirror := none

def pool0 : Array CpInfo := pool [(5, u "<init>"), (0, u "()V"), (1, .class_ 10), (1, u "java/lang/Object")] 113

def k0m0 : Method := { name := "<init>", desc := "()V", sig := { parameters := [], returnType := none }, accessFlags := 1, code := none }
/-- java/lang/Object -/
def k0 : Class := { plain "java/lang/Object" none with
  accessFlags := 33
  interfaces := #[]
  cf := some (fileOf pool0 8 #[] #[{ accessFlags := 1, nameIndex := 5, descriptorIndex := 6, attributes := #[] }] 33 0 #[] #[])
  fields := #[]
  methods := #[k0m0]
  instanceTypes := #[]
  staticTypes := #[]
  resolved := Array.replicate 124 none
  statics := none }

def pool1 : Array CpInfo := pool [(2, .class_ 4), (1, u "java/lang/Object"), (0, u "<init>"), (0, u "()V"), (2, .methodref 10 11), (0, .class_ 12), (0, .nameAndType 13 14), (0, u "dev/stratumaudio/BlockSwitchingBlockTypePinLaw"), (0, u "isLong"), (0, u "(I)Z"), (0, .methodref 16 17), (0, .class_ 18), (0, .nameAndType 19 20), (0, u "dev/stratumaudio/BlockSwitching"), (0, u "blockType"), (0, u "(IZZ)I"), (0, .methodref 10 22), (0, .nameAndType 23 24), (0, u "legal"), (0, u "(II)Z"), (3, u "law")] 6

def k1m0 : Method := { name := "<init>", desc := "()V", sig := { parameters := [], returnType := none }, accessFlags := 2, code := none }
def k1c1 : Code := { maxStack := 2, maxLocals := 1, code := method_2_code, exceptionTable := #[], attributes := #[] }
def k1m1 : Method := { name := "isLong", desc := "(I)Z", sig := { parameters := [.int], returnType := some .boolean }, accessFlags := 10, code := some k1c1 }
def k1c2 : Code := { maxStack := 2, maxLocals := 2, code := method_3_code, exceptionTable := #[], attributes := #[] }
def k1m2 : Method := { name := "legal", desc := "(II)Z", sig := { parameters := [.int, .int], returnType := some .boolean }, accessFlags := 10, code := some k1c2 }
def k1c3 : Code := { maxStack := 3, maxLocals := 10, code := code, exceptionTable := #[], attributes := #[] }
def k1m3 : Method := { name := "law", desc := "(II)Z", sig := { parameters := [.int, .int], returnType := some .boolean }, accessFlags := 9, code := some k1c3 }
/-- dev/stratumaudio/BlockSwitchingBlockTypePinLaw -/
def k1 : Class := { plain "dev/stratumaudio/BlockSwitchingBlockTypePinLaw" (some 0) with
  accessFlags := 49
  interfaces := #[]
  cf := some (fileOf pool1 10 #[] #[{ accessFlags := 2, nameIndex := 5, descriptorIndex := 6, attributes := #[] }, { accessFlags := 10, nameIndex := 13, descriptorIndex := 14, attributes := #[] }, { accessFlags := 10, nameIndex := 23, descriptorIndex := 24, attributes := #[] }, { accessFlags := 9, nameIndex := 28, descriptorIndex := 24, attributes := #[] }] 49 2 #[] #[])
  fields := #[]
  methods := #[k1m0, k1m1, k1m2, k1m3]
  instanceTypes := #[]
  staticTypes := #[]
  resolved := Array.replicate 35 none
  statics := none }

def pool2 : Array CpInfo := pool [(3, .class_ 4), (0, u "dev/stratumaudio/BlockSwitching"), (1, .class_ 8), (1, u "java/lang/Object"), (0, u "<init>"), (0, u "()V"), (2, u "recent"), (0, u "[D"), (12, u "oldest"), (0, u "I"), (2, u "ATTACK_RATIO"), (0, u "D"), (1, u "FLOOR"), (2, u "SEGMENTS"), (1, u "SLOTS_PER_SEGMENT"), (1, u "SUBBANDS"), (1, u "FIRST_SUBBAND"), (7, u "blockType"), (0, u "(IZZ)I")] 6

def k2m0 : Method := { name := "<init>", desc := "()V", sig := { parameters := [], returnType := none }, accessFlags := 0, code := none }
def k2c1 : Code := { maxStack := 2, maxLocals := 4, code := prog_7_method_3_code, exceptionTable := #[], attributes := #[] }
def k2m1 : Method := { name := "blockType", desc := "(IZZ)I", sig := { parameters := [.int, .boolean, .boolean], returnType := some .int }, accessFlags := 8, code := some k2c1 }
/-- dev/stratumaudio/BlockSwitching -/
def k2 : Class := { plain "dev/stratumaudio/BlockSwitching" (some 0) with
  accessFlags := 48
  interfaces := #[]
  cf := some (fileOf pool2 3 #[] #[{ accessFlags := 0, nameIndex := 9, descriptorIndex := 10, attributes := #[] }, { accessFlags := 8, nameIndex := 51, descriptorIndex := 52, attributes := #[] }] 48 6 #[] #[{ accessFlags := 26, nameIndex := 31, descriptorIndex := 32, attributes := #[] }, { accessFlags := 26, nameIndex := 34, descriptorIndex := 32, attributes := #[] }, { accessFlags := 26, nameIndex := 37, descriptorIndex := 28, attributes := #[] }, { accessFlags := 26, nameIndex := 39, descriptorIndex := 28, attributes := #[] }, { accessFlags := 26, nameIndex := 41, descriptorIndex := 28, attributes := #[] }, { accessFlags := 26, nameIndex := 43, descriptorIndex := 28, attributes := #[] }, { accessFlags := 18, nameIndex := 13, descriptorIndex := 14, attributes := #[] }, { accessFlags := 2, nameIndex := 27, descriptorIndex := 28, attributes := #[] }])
  fields := #[{ name := "ATTACK_RATIO", type := .double, accessFlags := 26, slot := 0, constantValue := 0 }, { name := "FLOOR", type := .double, accessFlags := 26, slot := 1, constantValue := 0 }, { name := "SEGMENTS", type := .int, accessFlags := 26, slot := 2, constantValue := 0 }, { name := "SLOTS_PER_SEGMENT", type := .int, accessFlags := 26, slot := 3, constantValue := 0 }, { name := "SUBBANDS", type := .int, accessFlags := 26, slot := 4, constantValue := 0 }, { name := "FIRST_SUBBAND", type := .int, accessFlags := 26, slot := 5, constantValue := 0 }, { name := "recent", type := (.array .double), accessFlags := 18, slot := 0, constantValue := 0 }, { name := "oldest", type := .int, accessFlags := 2, slot := 1, constantValue := 0 }]
  methods := #[k2m0, k2m1]
  instanceTypes := #[(.array .double), .int]
  staticTypes := #[.double, .double, .int, .int, .int, .int]
  resolved := Array.replicate 59 none
  statics := none }

def pool3 : Array CpInfo := pool [(1, u "java/lang/Cloneable"), (0, .class_ 1), (0, u "java/lang/Object"), (0, .class_ 3)] 3

/-- java/lang/Cloneable -/
def k3 : Class := { plain "java/lang/Cloneable" (some 0) with
  accessFlags := 1537
  interfaces := #[]
  cf := some (fileOf pool3 2 #[] #[] 1537 4 #[] #[])
  fields := #[]
  methods := #[]
  instanceTypes := #[]
  staticTypes := #[]
  resolved := Array.replicate 8 none
  statics := none }

def pool4 : Array CpInfo := pool [(1, u "java/io/Serializable"), (0, .class_ 1), (0, u "java/lang/Object"), (0, .class_ 3)] 3

/-- java/io/Serializable -/
def k4 : Class := { plain "java/io/Serializable" (some 0) with
  accessFlags := 1537
  interfaces := #[]
  cf := some (fileOf pool4 2 #[] #[] 1537 4 #[] #[])
  fields := #[]
  methods := #[]
  instanceTypes := #[]
  staticTypes := #[]
  resolved := Array.replicate 8 none
  statics := none }

/-- the primitive byte -/
def k5 : Class := { plain "byte" none with kind := .primitive 'B', accessFlags := 0x411 }
/-- [B -/
def k6 : Class := { plain "[B" (some 0) with kind := .array 5 .byte, interfaces := #[3, 4], accessFlags := 1041 }

/-- the primitive int -/
def k7 : Class := { plain "int" none with kind := .primitive 'I', accessFlags := 0x411 }
/-- [I -/
def k8 : Class := { plain "[I" (some 0) with kind := .array 7 .int, interfaces := #[3, 4], accessFlags := 1041 }

def heap : Heap := #[]
def classes : Array Class := #[k0, k1, k2, k3, k4, k5, k6, k7, k8]
def interned : List (Array UInt16 × Addr) := []
def slotsUsed : Nat := 0
def theMethod : MethodId := ⟨1, 3⟩
def args0 : Array Value := #[.int 5, .int 3]
def aboutOver (below : List Frame) : State where
  vm := { classes := classes, interned := interned.toArray }
  heap := heap
  slotsUsed := slotsUsed
  threads := #[{ frames := .invoking theMethod args0 :: below }]
def below0 : List Frame := [.native { method := ⟨0, 0⟩, args := #[] }]
def about1 : State := aboutOver below0
def p0 : Program := .bare "" "" ""
def e0 : Env := launch0.env 0 0 0
theorem w_frames : about1.frames = Frame.invoking theMethod args0 :: below0 := rfl
set_option maxRecDepth 65536 in
theorem w_args : argsFit about1.vm theMethod args0 = true := by decide +kernel
set_option maxRecDepth 65536 in
theorem w_heap : heapFits about1 = true := by decide +kernel
set_option maxRecDepth 65536 in
theorem w_runnable : about1.curStatus? = some .runnable := by decide +kernel
set_option maxRecDepth 65536 in
theorem w_alone : about1.alone = true := by decide +kernel
set_option maxRecDepth 65536 in
theorem w_named : about1.methodNamed? x = some theMethod := by decide +kernel
set_option maxRecDepth 65536 in
theorem w_hears : about1.hears theMethod below0 = true := by decide +kernel
set_option maxRecDepth 65536 in
theorem w_ripe : about1.ripe theMethod args0 below0 = true := by decide +kernel
theorem w_running : about1.status = .running := rfl
set_option maxRecDepth 65536 in
theorem w_room : about1.hasRoom e0.platform room_1 = true :=
  launch0.hasRoom_least _ room_1 (by decide +kernel) (by decide +kernel) (by decide +kernel) (by decide +kernel) (by decide +kernel) (by decide +kernel)
theorem allAtoms_all (ts : List Jvm.Cond) (a : Array Jvm.Value) (st : Jvm.State) : (allAtoms ts).before a st = ts.all (fun c => c.before a st) := by
  induction ts with
  | nil => rfl
  | cons c t ih =>
    show (Jvm.Cond.and c (allAtoms t)).before a st = _
    rw [Jvm.Cond.before_and, ih, List.all_cons]
def words1 : List Jvm.Cond := Jvm.Cond.code x code maxLocals ret :: tables_1
/-- a 'code' word, met by the world's own term for the bytes: nothing is compared byte by byte -/
theorem code_word {y : MethodName} {bytes : ByteArray} {mx : Nat} {rt : Option FieldType} {a : Array Value} {s : State} {m : MethodId} {meth : Method} {c : Code} (h1 : s.methodNamed? y = some m) (h2 : s.vm.method? m = some meth) (h3 : meth.code = some c) (h4 : c.code = bytes)
    (h5 : (c.maxLocals == mx && c.exceptionTable.isEmpty && decide (c.maxStack ≤ mostOperands) && decide (meth.sig.returnType = rt) && !meth.locks && decide (parseMethodDescriptor y.desc = some meth.sig)) = true) : (Jvm.Cond.code y bytes mx rt).before a s = true := by
  simp only [Bool.and_eq_true, beq_iff_eq, Bool.not_eq_true', decide_eq_true_eq] at h5
  obtain ⟨⟨⟨⟨⟨g1, g2⟩, g3⟩, g4⟩, g5⟩, g6⟩ := h5
  simp [Cond.before, Cond.holds, Cond.value, h1, h2, h3, h4, g1, g2, g3, g4, g5, g6]
def isCode : Jvm.Cond → Bool
  | .code _ _ _ _ => true
  | _ => false
theorem all_split {L : List Jvm.Cond} {P : Jvm.Cond → Bool} (h1 : L.all (fun c => isCode c || P c) = true) (h2 : ∀ c ∈ L.filter isCode, P c = true) : L.all P = true := by
  refine List.all_eq_true.mpr fun c hc => ?_
  have h := List.all_eq_true.mp h1 c hc
  rcases Bool.eq_false_or_eq_true (isCode c) with hi | hi
  · exact h2 c (List.mem_filter.mpr ⟨hc, hi⟩)
  · simpa [hi] using h
set_option maxRecDepth 65536 in
theorem w_c0 : (Jvm.Cond.code x code maxLocals ret).before args0 about1 = true := code_word (m := ⟨1, 3⟩) (meth := k1m3) (c := k1c3) (by decide +kernel) rfl rfl rfl (by decide +kernel)
set_option maxRecDepth 65536 in
theorem w_c1 : (Jvm.Cond.code ({ cls := "dev/stratumaudio/BlockSwitching", name := "blockType", desc := "(IZZ)I" } : Jvm.MethodName) prog_7_method_3_code (4 : Nat) (Option.some Jvm.ClassFile.FieldType.int)).before args0 about1 = true := code_word (m := ⟨2, 1⟩) (meth := k2m1) (c := k2c1) (by decide +kernel) rfl rfl rfl (by decide +kernel)
set_option maxRecDepth 65536 in
theorem w_c2 : (Jvm.Cond.code ({ cls := "dev/stratumaudio/BlockSwitchingBlockTypePinLaw", name := "legal", desc := "(II)Z" } : Jvm.MethodName) method_3_code (2 : Nat) (Option.some Jvm.ClassFile.FieldType.boolean)).before args0 about1 = true := code_word (m := ⟨1, 2⟩) (meth := k1m2) (c := k1c2) (by decide +kernel) rfl rfl rfl (by decide +kernel)
set_option maxRecDepth 65536 in
theorem w_c3 : (Jvm.Cond.code ({ cls := "dev/stratumaudio/BlockSwitchingBlockTypePinLaw", name := "isLong", desc := "(I)Z" } : Jvm.MethodName) method_2_code (1 : Nat) (Option.some Jvm.ClassFile.FieldType.boolean)).before args0 about1 = true := code_word (m := ⟨1, 1⟩) (meth := k1m1) (c := k1c1) (by decide +kernel) rfl rfl rfl (by decide +kernel)
def codes1 : List Jvm.Cond := [Jvm.Cond.code x code maxLocals ret, Jvm.Cond.code ({ cls := "dev/stratumaudio/BlockSwitching", name := "blockType", desc := "(IZZ)I" } : Jvm.MethodName) prog_7_method_3_code (4 : Nat) (Option.some Jvm.ClassFile.FieldType.int), Jvm.Cond.code ({ cls := "dev/stratumaudio/BlockSwitchingBlockTypePinLaw", name := "legal", desc := "(II)Z" } : Jvm.MethodName) method_3_code (2 : Nat) (Option.some Jvm.ClassFile.FieldType.boolean), Jvm.Cond.code ({ cls := "dev/stratumaudio/BlockSwitchingBlockTypePinLaw", name := "isLong", desc := "(I)Z" } : Jvm.MethodName) method_2_code (1 : Nat) (Option.some Jvm.ClassFile.FieldType.boolean)]
set_option maxRecDepth 65536 in
theorem codes_eq : words1.filter isCode = codes1 := rfl
theorem w_codes : ∀ c ∈ words1.filter isCode, c.before args0 about1 = true := by
  rw [codes_eq]
  intro c hc
  simp only [codes1, List.mem_cons, List.not_mem_nil, or_false] at hc
  rcases hc with rfl | rfl | rfl | rfl
  · exact w_c0
  · exact w_c1
  · exact w_c2
  · exact w_c3
set_option maxRecDepth 65536 in
theorem w_t1 : words1.all (fun c => isCode c || c.before args0 about1) = true := by decide +kernel
theorem w_tables : (allAtoms (Jvm.Cond.code x code maxLocals ret :: tables_1)).before args0 about1 = true := by
  rw [allAtoms_all]
  show words1.all (fun c => c.before args0 about1) = true
  refine all_split ?_ w_codes
  rw [w_t1]
set_option maxRecDepth 65536 in
theorem w_case : (Jvm.Cond.and given_1 narrow_1).before args0 about1 = true := by decide +kernel
theorem w_applies : (headSpec (Jvm.Cond.code x code maxLocals ret :: tables_1) room_1).applies x e0.platform about1 = true :=
  (Spec.applies_iff w_frames).mpr ⟨w_running, w_runnable, w_alone, w_named, w_hears, w_ripe, w_room, w_tables⟩
theorem atStart : AtStart classFile x code maxLocals ret World_1 tables_1 room_1 Calls_1 rest_1 Pre_1 launch0 p0 e0 about1 theMethod args0 below0 :=
  ⟨lists_1, trivial, launch0.admits_env _ _ _, launch0.least_env, fairChoices_fair.cas, fairChoices_fair.clock, w_frames, w_args, w_heap, w_applies, trivial, trivial, w_case⟩
end start1
theorem witness_1 : WitnessClaimed_1 := ⟨start1.p0, start1.e0, start1.about1, start1.theMethod, start1.args0, start1.below0, start1.atStart⟩
end Jvm.Pilot.@@N@@
