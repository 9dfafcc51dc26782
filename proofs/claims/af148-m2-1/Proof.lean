import JvmDerived
import JvmDerived.Pilot.@@N@@Statement
import JvmDerived.Pilot.@@N@@Code
set_option linter.unusedVariables false
set_option linter.unusedSimpArgs false
@@BLOCK:NumsL.lean.txt@@
namespace Jvm.RoadKit
open Sem ClassFile Op Lib Jvm.Stand Jvm.Free Jvm.LawKit
section New
variable {p : Program} {l : Launch} {e : Env} {R : Room} {s : State} {m : MethodId} {args : Array Value} {below : List Frame} {meth : Method} {c : Code} {T : State} {locs : List Loc} {cells slots : Nat}
theorem retI (X : Stand p l e R s m args below meth c T locs cells slots) (hx : p.tables.exec = Jvm.exec) {pc : Nat} {Ls : Array Slot} {z : Int32} {rest : List Value} (hret : meth.sig.returnType = some .int) (hd : decode c.code pc = .ok (.ireturn, 1)) {fs : List Frame}
    (hl : ∀ (f : JFrame) (acts : List Action), f.method = m → f.locked = none → f.entered = [] → (doReturn e (T.setTop f) acts (some (.int z))).1 = T.setFrames fs) : Steps p.tables e below (T.setTop (mkF m pc Ls (.int z :: rest))) (T.setFrames fs) := by
  have hm' : T.vm.method? m = some meth := X.method'
  have hn : narrow .int (.int z) = .int z := rfl
  show Steps p.tables e below (T.setTop { method := m, pc := pc, locals := Ls, stack := _ :: rest, locked := none }) _
  jvm_step X.here [X.here.top, hx, hd, hm', hret, hn]
  first | (intro acts; rw [hl _ acts rfl rfl rfl]) | rw [hl _ _ rfl rfl rfl]
  exact Steps.refl _
end New
end Jvm.RoadKit
namespace Jvm.Pilot.@@N@@
open Jvm Jvm.ClassFile Sem Op Lib Jvm.Free Jvm.Stand Jvm.LawKit Jvm.RoadKit Bundle Jvm.Pilot.@@N@@.Jvm.D
theorem own_nt {b : Bool} (h : b = false) : ¬ b = true := fun q => by rw [h] at q; cases q
theorem own_ts_ne {α : Type} {o : Option α} {a b : α} (h : o = some b) (ne : b ≠ a) : ¬ o = some a := fun q => ne (Option.some.inj (h.symm.trans q))
/-- what lcmp pushes; Java's shifts and the remainder of longs -/
def own_cmp (x y : Int64) : Int32 := lcmpW x y
def own_iushr (x y : Int32) : Int32 := (x.toUInt32 >>> (y &&& 31).toUInt32).toInt32
def own_lushr (x : Int64) (y : Int32) : Int64 := (x.toUInt64 >>> (y &&& 0x3f).toInt64.toUInt64).toInt64
def own_lshl (x : Int64) (y : Int32) : Int64 := x <<< (y &&& 0x3f).toInt64
def own_lshr (x : Int64) (y : Int32) : Int64 := x >>> (y &&& 0x3f).toInt64
def own_lrem (x y : Int64) : Int64 := x - (x / y) * y
theorem own_ieq (x y : Int32) : (if_icmp.holds .eq x y = true) = (x.toInt = y.toInt) := by
  rw [show if_icmp.holds .eq x y = (x == y) from rfl, beq_iff_eq, Int32.toInt_inj]
theorem own_ine (x y : Int32) : (if_icmp.holds .ne x y = true) = (x.toInt ≠ y.toInt) := by
  rw [show if_icmp.holds .ne x y = (x != y) from rfl, bne_iff_ne, ne_eq, ne_eq, Int32.toInt_inj]
theorem own_ilt (x y : Int32) : (if_icmp.holds .lt x y = true) = (x.toInt < y.toInt) := by
  rw [show if_icmp.holds .lt x y = decide (x < y) from rfl, decide_eq_true_eq, Int32.lt_iff_toInt_lt]
theorem own_ige (x y : Int32) : (if_icmp.holds .ge x y = true) = (y.toInt ≤ x.toInt) := by
  rw [show if_icmp.holds .ge x y = decide (y ≤ x) from rfl, decide_eq_true_eq, Int32.le_iff_toInt_le]
theorem own_igt (x y : Int32) : (if_icmp.holds .gt x y = true) = (y.toInt < x.toInt) := by
  rw [show if_icmp.holds .gt x y = decide (y < x) from rfl, decide_eq_true_eq, Int32.lt_iff_toInt_lt]
theorem own_ile (x y : Int32) : (if_icmp.holds .le x y = true) = (x.toInt ≤ y.toInt) := by
  rw [show if_icmp.holds .le x y = decide (x ≤ y) from rfl, decide_eq_true_eq, Int32.le_iff_toInt_le]
theorem own_z32 : (0 : Int32).toInt = 0 := rfl
theorem own_eq0 (x : Int32) : (ifCond.holds .eq x = true) = (x.toInt = 0) := by rw [if0, own_ieq, own_z32]
theorem own_ne0 (x : Int32) : (ifCond.holds .ne x = true) = (x.toInt ≠ 0) := by rw [if0, own_ine, own_z32]
theorem own_lt0 (x : Int32) : (ifCond.holds .lt x = true) = (x.toInt < 0) := by rw [if0, own_ilt, own_z32]
theorem own_ge0 (x : Int32) : (ifCond.holds .ge x = true) = (0 ≤ x.toInt) := by rw [if0, own_ige, own_z32]
theorem own_gt0 (x : Int32) : (ifCond.holds .gt x = true) = (0 < x.toInt) := by rw [if0, own_igt, own_z32]
theorem own_le0 (x : Int32) : (ifCond.holds .le x = true) = (x.toInt ≤ 0) := by rw [if0, own_ile, own_z32]
theorem own_cmp3 (x y : Int64) : (x.toInt < y.toInt ∧ (own_cmp x y).toInt = -1) ∨ (x.toInt = y.toInt ∧ (own_cmp x y).toInt = 0) ∨ (y.toInt < x.toInt ∧ (own_cmp x y).toInt = 1) := by
  obtain ⟨h1, h2, h3⟩ := c_lcmp x y
  have e : own_cmp x y = lcmpW x y := rfl
  rw [e]
  rcases Int.lt_trichotomy x.toInt y.toInt with h | h | h
  · exact Or.inl ⟨h, h1 h⟩
  · exact Or.inr (Or.inl ⟨h, h2 h⟩)
  · exact Or.inr (Or.inr ⟨h, h3 h⟩)
theorem own_ceq (x y : Int64) : (ifCond.holds .eq (own_cmp x y) = true) = (x.toInt = y.toInt) := by
  rw [own_eq0]; have := own_cmp3 x y; exact propext ⟨fun h => by omega, fun h => by omega⟩
theorem own_cne (x y : Int64) : (ifCond.holds .ne (own_cmp x y) = true) = (x.toInt ≠ y.toInt) := by
  rw [own_ne0]; have := own_cmp3 x y; exact propext ⟨fun h => by omega, fun h => by omega⟩
theorem own_clt (x y : Int64) : (ifCond.holds .lt (own_cmp x y) = true) = (x.toInt < y.toInt) := by
  rw [own_lt0]; have := own_cmp3 x y; exact propext ⟨fun h => by omega, fun h => by omega⟩
theorem own_cge (x y : Int64) : (ifCond.holds .ge (own_cmp x y) = true) = (y.toInt ≤ x.toInt) := by
  rw [own_ge0]; have := own_cmp3 x y; exact propext ⟨fun h => by omega, fun h => by omega⟩
theorem own_cgt (x y : Int64) : (ifCond.holds .gt (own_cmp x y) = true) = (y.toInt < x.toInt) := by
  rw [own_gt0]; have := own_cmp3 x y; exact propext ⟨fun h => by omega, fun h => by omega⟩
theorem own_cle (x y : Int64) : (ifCond.holds .le (own_cmp x y) = true) = (x.toInt ≤ y.toInt) := by
  rw [own_le0]; have := own_cmp3 x y; exact propext ⟨fun h => by omega, fun h => by omega⟩
theorem own_nar1 {x : Int32} (h : x = 1) : nar .boolean x = 1 := by rw [h]; rfl
theorem own_nar0 {x : Int32} (h : x = 0) : nar .boolean x = 0 := by rw [h]; rfl
/-- the last row of a law: a comparison that isn't met gives 0, else 1 -/
theorem own_last {c : Prop} [Decidable c] (h : ¬ c) : nar .boolean (if c then (0 : Int32) else 1) = 1 := by rw [if_neg h]; rfl
theorem own_n32 (x : Int32) : (x.toBitVec.toNat : Int) = x.toInt % 4294967296 := by
  have h := x.toBitVec.isLt
  show _ = x.toBitVec.toInt % _
  rw [BitVec.toInt_eq_toNat_cond]
  split <;> omega
theorem own_n64 (x : Int64) : (x.toBitVec.toNat : Int) = x.toInt % 18446744073709551616 := by
  have h := x.toBitVec.isLt
  show _ = x.toBitVec.toInt % _
  rw [BitVec.toInt_eq_toNat_cond]
  split <;> omega
theorem own_iushr_nat (x y : Int32) : (own_iushr x y).toBitVec.toNat = x.toBitVec.toNat / 2 ^ (y.toBitVec.toNat % 32) := by
  have h1 : (y &&& 31).toBitVec.toNat = y.toBitVec.toNat % 32 := by
    show (y.toBitVec &&& (31 : Int32).toBitVec).toNat = _
    rw [BitVec.toNat_and, show (31 : Int32).toBitVec.toNat = 2 ^ 5 - 1 from by decide, Nat.and_two_pow_sub_one_eq_mod]
  show (x.toBitVec >>> ((y &&& 31).toBitVec % 32)).toNat = _
  rw [BitVec.ushiftRight_eq', BitVec.toNat_ushiftRight, Nat.shiftRight_eq_div_pow, BitVec.toNat_umod, h1, show (32 : BitVec 32).toNat = 32 from rfl, Nat.mod_mod]
theorem own_lushr_nat (x : Int64) (y : Int32) : (own_lushr x y).toBitVec.toNat = x.toBitVec.toNat / 2 ^ (y.toBitVec.toNat % 64) := by
  obtain ⟨h1, h2⟩ := sm64 y _ rfl
  show (x.toBitVec >>> ((y &&& 0x3f).toInt64.toBitVec % 64)).toNat = _
  rw [BitVec.ushiftRight_eq', BitVec.toNat_ushiftRight, Nat.shiftRight_eq_div_pow, BitVec.toNat_umod, h1, BitVec.toNat_ofNat]
  congr 2
  show y.toBitVec.toNat % 64 % 2 ^ 64 % 64 = _
  omega
theorem own_iushr_nn (x y : Int32) (h : 0 ≤ x.toInt) : 0 ≤ (own_iushr x y).toInt ∧ (own_iushr x y).toInt ≤ x.toInt := by
  have a := own_iushr_nat x y
  have b := Nat.div_le_self x.toBitVec.toNat (2 ^ (y.toBitVec.toNat % 32))
  have c := own_n32 x
  have d := own_n32 (own_iushr x y)
  have r := rng32 x
  have r2 := rng32 (own_iushr x y)
  omega
theorem own_lushr_nn (x : Int64) (y : Int32) (h : 0 ≤ x.toInt) : 0 ≤ (own_lushr x y).toInt ∧ (own_lushr x y).toInt ≤ x.toInt := by
  have a := own_lushr_nat x y
  have b := Nat.div_le_self x.toBitVec.toNat (2 ^ (y.toBitVec.toNat % 64))
  have c := own_n64 x
  have d := own_n64 (own_lushr x y)
  have r := rng64 x
  have r2 := rng64 (own_lushr x y)
  omega
theorem own_ff {b : Bool} (h : ¬ b = true) : b = false := by cases b <;> first | rfl | exact absurd rfl h
theorem own_clt_f {x y : Int64} (h : ¬ x.toInt < y.toInt) : ifCond.holds .lt (own_cmp x y) = false := own_ff fun q => h ((own_clt x y).mp q)
theorem own_nz {x : Int64} (h : (0 : Int64).toInt < x.toInt) : x ≠ 0 := fun q => by rw [q] at h; exact absurd h (Int.lt_irrefl _)
theorem own_max (x : Int64) : x.toInt ≤ (9223372036854775807 : Int64).toInt := by
  have r := rng64 x
  have e : (9223372036854775807 : Int64).toInt = 9223372036854775807 := rfl
  omega

-- body 3: java/lang/Record.<init>:()V
theorem d3_0 : decode jdk_30_method_1_code 0 = .ok (.aload_n 0, 1) := by decide +kernel
theorem d3_1 : decode jdk_30_method_1_code 1 = .ok (.invokespecial 1, 3) := by decide +kernel
theorem d3_4 : decode jdk_30_method_1_code 4 = .ok (.return_, 1) := by decide +kernel
theorem pn_0 : plainName "java/lang/Record" = true := by first | (simp [plainName, overriddenIn]; done) | decide +kernel
theorem ef_3 (m : MethodId) (x0 : Addr) : entryFrame m #[(.ref x0)] 1 = mkF m 0 #[.val (.ref x0)] [] := by first | (simp [entryFrame, mkF, argsToLocals, Value.category]; done) | rfl
def Q3 (Z : State) (x0 : Addr) (h0 : Heap) (n0 : Nat) (v : Option Value) (h : Heap) (L : List Loc) : Prop := v = none ∧ Fr n0 L ∧ h = h0
set_option maxRecDepth 65536 in
set_option maxHeartbeats 40000000 in
theorem rm3 (l : Launch) (Z : State) (a0 : Array Value) (hw : ∀ d ∈ tables_1, d.before a0 Z = true) (ws : List Jvm.Cond) (x0 : Addr) (h0 : Heap) (n0 : Nat) (Z0 : n0 ≤ h0.size) :
    MetFree l (⟨"java/lang/Record", "<init>", "()V"⟩ : MethodName) (head1 (Jvm.Cond.code (⟨"java/lang/Record", "<init>", "()V"⟩ : MethodName) jdk_30_method_1_code 1 (none) :: ws) ({ frames := 1, cells := 0, slots := 0, locals := 12 } : Room)) (fun a U => a = #[(.ref x0)] ∧ Z.Warmed39 U.vm ∧ U.heap = h0) (fun _ _ _ _ _ => True) (fun _ U o U' => ∃ v L, o = .returned v ∧ Q3 Z x0 h0 n0 v U'.heap L ∧ FrameEnd U o U' L ({ frames := 1, cells := 0, slots := 0, locals := 12 } : Room).cells ({ frames := 1, cells := 0, slots := 0, locals := 12 } : Room).slots) := by
  refine MetFree.of_bodySF (plainFor_of_name pn_0) hisR ?_
  intro p e s m args below meth c s₁ Bd hml0 hP hK0
  obtain ⟨rfl, hZ, hh⟩ := hP
  have hx := Bd.exec
  have hby := Bd.bytes
  have hml : c.maxLocals = 1 := hml0
  have hown : s.vm.findClass "java/lang/Record" = some m.cls := findClass_of_methodNamed Bd.named
  have hnm := (name_of_methodNamed Bd.named Bd.method).1
  have hret : meth.sig.returnType = none := Bd.returns
  have hlk : meth.locks = false := Bd.notSynchronized
  have X0 : Stand p l e ({ frames := 1, cells := 0, slots := 0, locals := 12 } : Room) s m #[(.ref x0)] below meth c s₁ [] 0 0 := Stand.of_body Bd
  have e0 : s₁.heap = h0 := by rw [← hh, Bd.state]; rfl
  have N0 := Fr.nil n0
  have pre0 : ∀ t, Steps p.tables e below (s₁.setTop (mkF m 0 #[.val (.ref x0)] [])) t → Steps p.tables e below (s₁.setTop (entryFrame m #[(.ref x0)] 1)) t := fun t k => castTop (ef_3 m x0) k
  obtain ⟨T1, X1, e1, st1⟩ := initO X0 hx hZ hown (hw _ (List.mem_of_getElem? (i := 17) rfl)) (hw _ (List.mem_of_getElem? (i := 18) rfl)) (hw _ (List.mem_of_getElem? (i := 19) rfl)) e0 (g := (mkF m 1 #[.val (.ref x0)] [(.ref x0)])) rfl (by rw [hml]; rfl) rfl (hb hby d3_1) (by decide) (W := 0) (by show 2 * 0 + _ ≤ _; exact Nat.le_of_eq rfl) (by decide)
  obtain ⟨fs, hr, hrun, hended, hW, hsame⟩ := X1.leave (v := none) (fun _ => rfl)
  refine ⟨_, _, pre0 _ ?_, hrun, hended, _, _, rfl, ?_, ⟨_, rfl⟩, hW, hsame.mono (by decide) (by decide)⟩
  · show Steps p.tables e below (s₁.setTop (mkF m 0 #[.val (.ref x0)] [])) _
    refine XS.aloadN X0.here hx rfl (hb hby d3_0) rfl rfl ?_
    show Steps p.tables e below (s₁.setTop (mkF m 1 #[.val (.ref x0)] [(.ref x0)])) _
    refine st1 _ ?_
    show Steps p.tables e below (T1.setTop (mkF m 4 #[.val (.ref x0)] [])) _
    exact X1.returnOut hx hret (hb hby d3_4) hr
  · show Q3 Z x0 h0 n0 _ T1.heap _
    rw [e1]
    exact ⟨rfl, N0, rfl⟩
theorem pd_0 : parseMethodDescriptor "()V" = some ⟨[], none⟩ := by decide +kernel
-- body 2: com/example/parley/parley/transport/WaitingOutput$Limits.<init>:(JJJ)V
theorem d2_0 : decode prog_24_method_1_code 0 = .ok (.aload_n 0, 1) := by decide +kernel
theorem d2_1 : decode prog_24_method_1_code 1 = .ok (.invokespecial 1, 3) := by decide +kernel
theorem d2_4 : decode prog_24_method_1_code 4 = .ok (.aload_n 0, 1) := by decide +kernel
theorem d2_5 : decode prog_24_method_1_code 5 = .ok (.lload_n 1, 1) := by decide +kernel
theorem d2_6 : decode prog_24_method_1_code 6 = .ok (.putfield 7, 3) := by decide +kernel
theorem d2_9 : decode prog_24_method_1_code 9 = .ok (.aload_n 0, 1) := by decide +kernel
theorem d2_10 : decode prog_24_method_1_code 10 = .ok (.lload_n 3, 1) := by decide +kernel
theorem d2_11 : decode prog_24_method_1_code 11 = .ok (.putfield 13, 3) := by decide +kernel
theorem d2_14 : decode prog_24_method_1_code 14 = .ok (.aload_n 0, 1) := by decide +kernel
theorem d2_15 : decode prog_24_method_1_code 15 = .ok (.lload 5, 2) := by decide +kernel
theorem d2_17 : decode prog_24_method_1_code 17 = .ok (.putfield 16, 3) := by decide +kernel
theorem d2_20 : decode prog_24_method_1_code 20 = .ok (.return_, 1) := by decide +kernel
theorem pn_1 : plainName "com/example/parley/parley/transport/WaitingOutput$Limits" = true := by first | (simp [plainName, overriddenIn]; done) | decide +kernel
theorem ef_2 (m : MethodId) (x0 : Addr) (x1 : Int64) (x2 : Int64) (x3 : Int64) : entryFrame m #[(.ref x0), (.long x1), (.long x2), (.long x3)] 7 = mkF m 0 #[.val (.ref x0), .val (.long x1), .second, .val (.long x2), .second, .val (.long x3), .second] [] := by first | (simp [entryFrame, mkF, argsToLocals, Value.category]; done) | rfl
def Q2 (Z : State) (x0 : Addr) (x1 : Int64) (x2 : Int64) (x3 : Int64) (u_perClient_x0 : Value) (u_perAddress_x0 : Value) (u_total_x0 : Value) (h0 : Heap) (n0 : Nat) (v : Option Value) (h : Heap) (L : List Loc) : Prop := v = none ∧ Fr n0 L ∧ Keep h0 h [x0] ∧ Exa Z h x0 "com/example/parley/parley/transport/WaitingOutput$Limits" ∧ Fld Z h x0 "com/example/parley/parley/transport/WaitingOutput$Limits" "perClient" "J" (.long x1) ∧ Fld Z h x0 "com/example/parley/parley/transport/WaitingOutput$Limits" "perAddress" "J" (.long x2) ∧ Fld Z h x0 "com/example/parley/parley/transport/WaitingOutput$Limits" "total" "J" (.long x3)
set_option maxRecDepth 65536 in
set_option maxHeartbeats 40000000 in
theorem rm2 (l : Launch) (Z : State) (a0 : Array Value) (hw : ∀ d ∈ tables_1, d.before a0 Z = true) (ws : List Jvm.Cond) (x0 : Addr) (x1 : Int64) (x2 : Int64) (x3 : Int64) (u_perClient_x0 : Value) (u_perAddress_x0 : Value) (u_total_x0 : Value) (h0 : Heap) (n0 : Nat) (Z0 : n0 ≤ h0.size) (E_x0 : Exa Z h0 x0 "com/example/parley/parley/transport/WaitingOutput$Limits") (g_x0 : n0 ≤ x0) (F_x0_perClient : Fld Z h0 x0 "com/example/parley/parley/transport/WaitingOutput$Limits" "perClient" "J" u_perClient_x0) (F_x0_perAddress : Fld Z h0 x0 "com/example/parley/parley/transport/WaitingOutput$Limits" "perAddress" "J" u_perAddress_x0) (F_x0_total : Fld Z h0 x0 "com/example/parley/parley/transport/WaitingOutput$Limits" "total" "J" u_total_x0) :
    MetFree l (⟨"com/example/parley/parley/transport/WaitingOutput$Limits", "<init>", "(JJJ)V"⟩ : MethodName) (head1 (Jvm.Cond.code (⟨"com/example/parley/parley/transport/WaitingOutput$Limits", "<init>", "(JJJ)V"⟩ : MethodName) prog_24_method_1_code 7 (none) :: ws) ({ frames := 2, cells := 0, slots := 0, locals := 24 } : Room)) (fun a U => a = #[(.ref x0), (.long x1), (.long x2), (.long x3)] ∧ Z.Warmed39 U.vm ∧ U.heap = h0) (fun _ _ _ _ _ => True) (fun _ U o U' => ∃ v L, o = .returned v ∧ Q2 Z x0 x1 x2 x3 u_perClient_x0 u_perAddress_x0 u_total_x0 h0 n0 v U'.heap L ∧ FrameEnd U o U' L ({ frames := 2, cells := 0, slots := 0, locals := 24 } : Room).cells ({ frames := 2, cells := 0, slots := 0, locals := 24 } : Room).slots) := by
  refine MetFree.of_bodySF (plainFor_of_name pn_1) hisR ?_
  intro p e s m args below meth c s₁ Bd hml0 hP hK0
  obtain ⟨rfl, hZ, hh⟩ := hP
  have hx := Bd.exec
  have hby := Bd.bytes
  have hml : c.maxLocals = 7 := hml0
  have hown : s.vm.findClass "com/example/parley/parley/transport/WaitingOutput$Limits" = some m.cls := findClass_of_methodNamed Bd.named
  have hnm := (name_of_methodNamed Bd.named Bd.method).1
  have hret : meth.sig.returnType = none := Bd.returns
  have hlk : meth.locks = false := Bd.notSynchronized
  have X0 : Stand p l e ({ frames := 2, cells := 0, slots := 0, locals := 24 } : Room) s m #[(.ref x0), (.long x1), (.long x2), (.long x3)] below meth c s₁ [] 0 0 := Stand.of_body Bd
  have e0 : s₁.heap = h0 := by rw [← hh, Bd.state]; rfl
  have N0 := Fr.nil n0
  have pre0 : ∀ t, Steps p.tables e below (s₁.setTop (mkF m 0 #[.val (.ref x0), .val (.long x1), .second, .val (.long x2), .second, .val (.long x3), .second] [])) t → Steps p.tables e below (s₁.setTop (entryFrame m #[(.ref x0), (.long x1), (.long x2), (.long x3)] 7)) t := fun t k => castTop (ef_2 m x0 x1 x2 x3) k
  obtain ⟨_, _, ⟨T1, L1, k1, n1⟩, -, X1, ⟨Lc1, hQ1, l1, y1, z1⟩, st1⟩ := X0.specialBack hx (y := (⟨"java/lang/Record", "<init>", "()V"⟩ : MethodName)) rfl hown (mvT hZ (hw _ (List.mem_of_getElem? (i := 12) rfl))) (mvT hZ (hw _ (List.mem_of_getElem? (i := 13) rfl))) (mvT hZ (hw _ (List.mem_of_getElem? (i := 16) rfl))) (by decide) (backOf (W := 0) (rm3 l Z a0 hw [] x0 h0 n0 Z0) hZ (hw _ (List.mem_of_getElem? (i := 16) rfl)) (hw _ (List.mem_of_getElem? (i := 15) rfl)) (by decide) (by decide)) (g := (mkF m 1 #[.val (.ref x0), .val (.long x1), .second, .val (.long x2), .second, .val (.long x3), .second] [(.ref x0)])) rfl (by rw [hml]; rfl) (Steps.refl _) (a := x0) (argsL := []) (rest := []) (lenOf pd_0 rfl) rfl (by show 2 * 0 + _ ≤ _; exact Nat.le_of_eq rfl) (hb hby d2_1) (fun _ _ => ⟨rfl, e0, (by decide : 0 + 0 ≤ _), (by decide : 0 + 0 ≤ _)⟩)
  dsimp only [Pt.U, Pt.locs, Pt.cells, Pt.slots] at X1 l1 y1 z1 st1 hQ1
  subst l1 y1 z1
  obtain ⟨rfl, Nq1, e1⟩ := hQ1
  have N1 := Fr.app N0 Nq1
  obtain ⟨T2, h2, X2, e2, W2, st2⟩ := putF X1 hx hZ hown (host := "") (Or.inl (hw _ (List.mem_of_getElem? (i := 20) rfl))) Via.refl e1 F_x0_perClient E_x0 (Or.inr ⟨(hw _ (List.mem_of_getElem? (i := 21) rfl)), rfl, hnm⟩) (hw _ (List.mem_of_getElem? (i := 5) rfl)) (ty := .long) (by decide) rfl rfl (g := (mkF m 6 #[.val (.ref x0), .val (.long x1), .second, .val (.long x2), .second, .val (.long x3), .second] [(.long x1), (.ref x0)])) rfl rfl (hb hby d2_6)
  have N2 := Fr.snoc X2 N1 g_x0
  have Z2 : n0 ≤ h2.size := Nat.le_trans Z0 (Keep.of_wr W2).1
  have K2 : Keep h0 h2 [x0] := Keep.wr (Keep.refl h0 [x0]) W2 (Or.inl (List.mem_of_getElem? (i := 0) rfl))
  have P3 := E_x0.wr W2
  have P4 := F_x0_perClient.same W2
  have P5 := F_x0_perAddress.other W2 (Or.inr (slot_ne (Or.inr (hw _ (List.mem_of_getElem? (i := 23) rfl))) (Or.inr (hw _ (List.mem_of_getElem? (i := 21) rfl))) (by decide) (t := .long) (t' := .long) (by decide) (by decide)))
  have P6 := F_x0_total.other W2 (Or.inr (slot_ne (Or.inr (hw _ (List.mem_of_getElem? (i := 25) rfl))) (Or.inr (hw _ (List.mem_of_getElem? (i := 21) rfl))) (by decide) (t := .long) (t' := .long) (by decide) (by decide)))
  obtain ⟨T7, h7, X7, e7, W7, st7⟩ := putF X2 hx hZ hown (host := "") (Or.inl (hw _ (List.mem_of_getElem? (i := 22) rfl))) Via.refl e2 P5 P3 (Or.inr ⟨(hw _ (List.mem_of_getElem? (i := 23) rfl)), rfl, hnm⟩) (hw _ (List.mem_of_getElem? (i := 5) rfl)) (ty := .long) (by decide) rfl rfl (g := (mkF m 11 #[.val (.ref x0), .val (.long x1), .second, .val (.long x2), .second, .val (.long x3), .second] [(.long x2), (.ref x0)])) rfl rfl (hb hby d2_11)
  have N7 := Fr.snoc X7 N2 g_x0
  have Z7 : n0 ≤ h7.size := Nat.le_trans Z2 (Keep.of_wr W7).1
  have K7 : Keep h0 h7 [x0] := Keep.wr K2 W7 (Or.inl (List.mem_of_getElem? (i := 0) rfl))
  have P8 := P3.wr W7
  have P9 := P4.other W7 (Or.inr (slot_ne (Or.inr (hw _ (List.mem_of_getElem? (i := 21) rfl))) (Or.inr (hw _ (List.mem_of_getElem? (i := 23) rfl))) (by decide) (t := .long) (t' := .long) (by decide) (by decide)))
  have P10 := P5.same W7
  have P11 := P6.other W7 (Or.inr (slot_ne (Or.inr (hw _ (List.mem_of_getElem? (i := 25) rfl))) (Or.inr (hw _ (List.mem_of_getElem? (i := 23) rfl))) (by decide) (t := .long) (t' := .long) (by decide) (by decide)))
  obtain ⟨T12, h12, X12, e12, W12, st12⟩ := putF X7 hx hZ hown (host := "") (Or.inl (hw _ (List.mem_of_getElem? (i := 24) rfl))) Via.refl e7 P11 P8 (Or.inr ⟨(hw _ (List.mem_of_getElem? (i := 25) rfl)), rfl, hnm⟩) (hw _ (List.mem_of_getElem? (i := 5) rfl)) (ty := .long) (by decide) rfl rfl (g := (mkF m 17 #[.val (.ref x0), .val (.long x1), .second, .val (.long x2), .second, .val (.long x3), .second] [(.long x3), (.ref x0)])) rfl rfl (hb hby d2_17)
  have N12 := Fr.snoc X12 N7 g_x0
  have Z12 : n0 ≤ h12.size := Nat.le_trans Z7 (Keep.of_wr W12).1
  have K12 : Keep h0 h12 [x0] := Keep.wr K7 W12 (Or.inl (List.mem_of_getElem? (i := 0) rfl))
  have P13 := P8.wr W12
  have P14 := P9.other W12 (Or.inr (slot_ne (Or.inr (hw _ (List.mem_of_getElem? (i := 21) rfl))) (Or.inr (hw _ (List.mem_of_getElem? (i := 25) rfl))) (by decide) (t := .long) (t' := .long) (by decide) (by decide)))
  have P15 := P10.other W12 (Or.inr (slot_ne (Or.inr (hw _ (List.mem_of_getElem? (i := 23) rfl))) (Or.inr (hw _ (List.mem_of_getElem? (i := 25) rfl))) (by decide) (t := .long) (t' := .long) (by decide) (by decide)))
  have P16 := P11.same W12
  obtain ⟨fs, hr, hrun, hended, hW, hsame⟩ := X12.leave (v := none) (fun _ => rfl)
  refine ⟨_, _, pre0 _ ?_, hrun, hended, _, _, rfl, ?_, ⟨_, rfl⟩, hW, hsame.mono (by decide) (by decide)⟩
  · show Steps p.tables e below (s₁.setTop (mkF m 0 #[.val (.ref x0), .val (.long x1), .second, .val (.long x2), .second, .val (.long x3), .second] [])) _
    refine XS.aloadN X0.here hx rfl (hb hby d2_0) rfl rfl ?_
    show Steps p.tables e below (s₁.setTop (mkF m 1 #[.val (.ref x0), .val (.long x1), .second, .val (.long x2), .second, .val (.long x3), .second] [(.ref x0)])) _
    refine st1.trans ?_
    show Steps p.tables e below (T1.setTop (mkF m 4 #[.val (.ref x0), .val (.long x1), .second, .val (.long x2), .second, .val (.long x3), .second] [])) _
    refine XS.aloadN X1.here hx rfl (hb hby d2_4) rfl rfl ?_
    show Steps p.tables e below (T1.setTop (mkF m 5 #[.val (.ref x0), .val (.long x1), .second, .val (.long x2), .second, .val (.long x3), .second] [(.ref x0)])) _
    refine XS.lloadN X1.here hx rfl (hb hby d2_5) rfl ?_
    show Steps p.tables e below (T1.setTop (mkF m 6 #[.val (.ref x0), .val (.long x1), .second, .val (.long x2), .second, .val (.long x3), .second] [(.long x1), (.ref x0)])) _
    refine st2 _ ?_
    show Steps p.tables e below (T2.setTop (mkF m 9 #[.val (.ref x0), .val (.long x1), .second, .val (.long x2), .second, .val (.long x3), .second] [])) _
    refine XS.aloadN X2.here hx rfl (hb hby d2_9) rfl rfl ?_
    show Steps p.tables e below (T2.setTop (mkF m 10 #[.val (.ref x0), .val (.long x1), .second, .val (.long x2), .second, .val (.long x3), .second] [(.ref x0)])) _
    refine XS.lloadN X2.here hx rfl (hb hby d2_10) rfl ?_
    show Steps p.tables e below (T2.setTop (mkF m 11 #[.val (.ref x0), .val (.long x1), .second, .val (.long x2), .second, .val (.long x3), .second] [(.long x2), (.ref x0)])) _
    refine st7 _ ?_
    show Steps p.tables e below (T7.setTop (mkF m 14 #[.val (.ref x0), .val (.long x1), .second, .val (.long x2), .second, .val (.long x3), .second] [])) _
    refine XS.aloadN X7.here hx rfl (hb hby d2_14) rfl rfl ?_
    show Steps p.tables e below (T7.setTop (mkF m 15 #[.val (.ref x0), .val (.long x1), .second, .val (.long x2), .second, .val (.long x3), .second] [(.ref x0)])) _
    refine XS.lload X7.here hx rfl (hb hby d2_15) rfl ?_
    show Steps p.tables e below (T7.setTop (mkF m 17 #[.val (.ref x0), .val (.long x1), .second, .val (.long x2), .second, .val (.long x3), .second] [(.long x3), (.ref x0)])) _
    refine st12 _ ?_
    show Steps p.tables e below (T12.setTop (mkF m 20 #[.val (.ref x0), .val (.long x1), .second, .val (.long x2), .second, .val (.long x3), .second] [])) _
    exact X12.returnOut hx hret (hb hby d2_20) hr
  · show Q2 Z x0 x1 x2 x3 u_perClient_x0 u_perAddress_x0 u_total_x0 h0 n0 _ T12.heap _
    rw [e12]
    exact ⟨rfl, N12, K12, P13, P14, P15, P16⟩
theorem pd_1 : parseMethodDescriptor "(JJJ)V" = some ⟨[.long, .long, .long], none⟩ := by decide +kernel
-- body 1: com/example/parley/parley/transport/WaitingOutput$Limits.forHeap:(J)Lcom/example/parley/parley/transport/WaitingOutput$Limits;
theorem d1_0 : decode prog_24_method_2_code 0 = .ok (.new 8, 3) := by decide +kernel
theorem d1_3 : decode prog_24_method_2_code 3 = .ok (.dup, 1) := by decide +kernel
theorem d1_4 : decode prog_24_method_2_code 4 = .ok (.ldc2_w 19, 3) := by decide +kernel
theorem d1_7 : decode prog_24_method_2_code 7 = .ok (.lload_n 0, 1) := by decide +kernel
theorem d1_8 : decode prog_24_method_2_code 8 = .ok (.ldc2_w 21, 3) := by decide +kernel
theorem d1_11 : decode prog_24_method_2_code 11 = .ok (.ldiv, 1) := by decide +kernel
theorem d1_12 : decode prog_24_method_2_code 12 = .ok (.lload_n 0, 1) := by decide +kernel
theorem d1_13 : decode prog_24_method_2_code 13 = .ok (.ldc2_w 23, 3) := by decide +kernel
theorem d1_16 : decode prog_24_method_2_code 16 = .ok (.ldiv, 1) := by decide +kernel
theorem d1_17 : decode prog_24_method_2_code 17 = .ok (.invokespecial 25, 3) := by decide +kernel
theorem d1_20 : decode prog_24_method_2_code 20 = .ok (.areturn, 1) := by decide +kernel
theorem ef_1 (m : MethodId) (x0 : Int64) : entryFrame m #[(.long x0)] 2 = mkF m 0 #[.val (.long x0), .second] [] := by first | (simp [entryFrame, mkF, argsToLocals, Value.category]; done) | rfl
def Q1 (Z : State) (x0 : Int64) (h0 : Heap) (n0 : Nat) (v : Option Value) (h : Heap) (L : List Loc) : Prop := ∃ b : Addr, v = some (.ref b) ∧ Fr n0 L ∧ Keep h0 h [] ∧ h0.size ≤ b ∧ Exa Z h b "com/example/parley/parley/transport/WaitingOutput$Limits" ∧ Fld Z h b "com/example/parley/parley/transport/WaitingOutput$Limits" "perClient" "J" (.long (4194304 : Int64)) ∧ Fld Z h b "com/example/parley/parley/transport/WaitingOutput$Limits" "perAddress" "J" (.long (x0 / (8 : Int64))) ∧ Fld Z h b "com/example/parley/parley/transport/WaitingOutput$Limits" "total" "J" (.long (x0 / (4 : Int64)))
set_option maxRecDepth 65536 in
set_option maxHeartbeats 40000000 in
theorem rm1 (l : Launch) (Z : State) (a0 : Array Value) (hw : ∀ d ∈ tables_1, d.before a0 Z = true) (ws : List Jvm.Cond) (x0 : Int64) (h0 : Heap) (n0 : Nat) (Z0 : n0 ≤ h0.size) :
    MetFree l (⟨"com/example/parley/parley/transport/WaitingOutput$Limits", "forHeap", "(J)Lcom/example/parley/parley/transport/WaitingOutput$Limits;"⟩ : MethodName) (head1 (Jvm.Cond.code (⟨"com/example/parley/parley/transport/WaitingOutput$Limits", "forHeap", "(J)Lcom/example/parley/parley/transport/WaitingOutput$Limits;"⟩ : MethodName) prog_24_method_2_code 2 (some (.object "com/example/parley/parley/transport/WaitingOutput$Limits")) :: ws) ({ frames := 3, cells := 1, slots := 3, locals := 43 } : Room)) (fun a U => a = #[(.long x0)] ∧ Z.Warmed39 U.vm ∧ U.heap = h0) (fun _ _ _ _ _ => True) (fun _ U o U' => ∃ v L, o = .returned v ∧ Q1 Z x0 h0 n0 v U'.heap L ∧ FrameEnd U o U' L ({ frames := 3, cells := 1, slots := 3, locals := 43 } : Room).cells ({ frames := 3, cells := 1, slots := 3, locals := 43 } : Room).slots) := by
  refine MetFree.of_bodySF (plainFor_of_name pn_1) hisR ?_
  intro p e s m args below meth c s₁ Bd hml0 hP hK0
  obtain ⟨rfl, hZ, hh⟩ := hP
  have hx := Bd.exec
  have hby := Bd.bytes
  have hml : c.maxLocals = 2 := hml0
  have hown : s.vm.findClass "com/example/parley/parley/transport/WaitingOutput$Limits" = some m.cls := findClass_of_methodNamed Bd.named
  have hnm := (name_of_methodNamed Bd.named Bd.method).1
  have hret : meth.sig.returnType = some (.object "com/example/parley/parley/transport/WaitingOutput$Limits") := Bd.returns
  have hlk : meth.locks = false := Bd.notSynchronized
  have X0 : Stand p l e ({ frames := 3, cells := 1, slots := 3, locals := 43 } : Room) s m #[(.long x0)] below meth c s₁ [] 0 0 := Stand.of_body Bd
  have e0 : s₁.heap = h0 := by rw [← hh, Bd.state]; rfl
  have N0 := Fr.nil n0
  have pre0 : ∀ t, Steps p.tables e below (s₁.setTop (mkF m 0 #[.val (.long x0), .second] [])) t → Steps p.tables e below (s₁.setTop (entryFrame m #[(.long x0)] 2)) t := fun t k => castTop (ef_1 m x0) k
  obtain ⟨T1, h1, X1, e1, E1, A1, D1, -, st1⟩ := newO X0 hx hZ hown (hw _ (List.mem_of_getElem? (i := 4) rfl)) (hw _ (List.mem_of_getElem? (i := 5) rfl)) (hw _ (List.mem_of_getElem? (i := 2) rfl)) e0 (g := (mkF m 0 #[.val (.long x0), .second] [])) rfl (hb hby d1_0) (by decide) (by decide)
  obtain ⟨b1, gg1⟩ : ∃ z, z = h0.size := ⟨_, rfl⟩
  rw [← gg1] at A1 D1 st1
  have g_b1 : n0 ≤ b1 := Nat.le_trans Z0 (Nat.le_of_eq gg1.symm)
  have sz_b1 : h0.size ≤ b1 := Nat.le_trans (Keep.refl h0 []).1 (Nat.le_of_eq gg1.symm)
  have Z1 : n0 ≤ h1.size := Nat.le_trans Z0 E1.1
  have K1 : Keep h0 h1 [] := Keep.ext (Keep.refl h0 []) E1
  have P2 : Fld Z h1 b1 "com/example/parley/parley/transport/WaitingOutput$Limits" "perClient" "J" (.long (0 : Int64)) := D1 (Or.inr (hw _ (List.mem_of_getElem? (i := 21) rfl))) (ty := .long) (by decide)
  have P3 : Fld Z h1 b1 "com/example/parley/parley/transport/WaitingOutput$Limits" "perAddress" "J" (.long (0 : Int64)) := D1 (Or.inr (hw _ (List.mem_of_getElem? (i := 23) rfl))) (ty := .long) (by decide)
  have P4 : Fld Z h1 b1 "com/example/parley/parley/transport/WaitingOutput$Limits" "total" "J" (.long (0 : Int64)) := D1 (Or.inr (hw _ (List.mem_of_getElem? (i := 25) rfl))) (ty := .long) (by decide)
  obtain ⟨_, _, ⟨T5, L5, k5, n5⟩, -, X5, ⟨Lc5, hQ5, l5, y5, z5⟩, st5⟩ := X1.specialBack hx (y := (⟨"com/example/parley/parley/transport/WaitingOutput$Limits", "<init>", "(JJJ)V"⟩ : MethodName)) rfl hown (mvT hZ (hw _ (List.mem_of_getElem? (i := 9) rfl))) (mvT hZ (hw _ (List.mem_of_getElem? (i := 10) rfl))) (mvT hZ (hw _ (List.mem_of_getElem? (i := 11) rfl))) (by decide) (backOf (W := 1) (rm2 l Z a0 hw [] b1 (4194304 : Int64) (x0 / (8 : Int64)) (x0 / (4 : Int64)) (.long (0 : Int64)) (.long (0 : Int64)) (.long (0 : Int64)) h1 n0 Z1 A1 g_b1 P2 P3 P4) hZ (hw _ (List.mem_of_getElem? (i := 11) rfl)) (hw _ (List.mem_of_getElem? (i := 2) rfl)) (by decide) (by decide)) (g := (mkF m 17 #[.val (.long x0), .second] [(.long (x0 / (4 : Int64))), (.long (x0 / (8 : Int64))), (.long (4194304 : Int64)), (.ref b1), (.ref b1)])) rfl (by rw [hml]; rfl) (Steps.refl _) (a := b1) (argsL := [(.long (4194304 : Int64)), (.long (x0 / (8 : Int64))), (.long (x0 / (4 : Int64)))]) (rest := [(.ref b1)]) (lenOf pd_1 rfl) rfl (by show 2 * 0 + _ ≤ _; exact Nat.le_of_eq rfl) (hb hby d1_17) (fun _ _ => ⟨rfl, e1, (by decide : 1 + 0 ≤ _), (by decide : 3 + 0 ≤ _)⟩)
  dsimp only [Pt.U, Pt.locs, Pt.cells, Pt.slots] at X5 l5 y5 z5 st5 hQ5
  subst l5 y5 z5
  obtain ⟨rfl, Nq5, Kq5, G5_0, G5_1, G5_2, G5_3⟩ := hQ5
  obtain ⟨h5, e5⟩ : ∃ z, T5.heap = z := ⟨_, rfl⟩
  rw [e5] at Kq5 G5_0 G5_1 G5_2 G5_3
  have N5 := Fr.app N0 Nq5
  have Z5 : n0 ≤ h5.size := Nat.le_trans Z1 Kq5.1
  have K5 : Keep h0 h5 [] := Keep.trans K1 Kq5 (allS (Or.inr sz_b1) all0)
  have P6 := A1.keep Kq5
  obtain ⟨fs, hr, hrun, hended, hW, hsame⟩ := X5.leave (v := some (.ref b1)) (fun h => by rw [hret] at h; cases h)
  refine ⟨_, _, pre0 _ ?_, hrun, hended, _, _, rfl, ?_, ⟨_, rfl⟩, hW, hsame.mono (by decide) (by decide)⟩
  · show Steps p.tables e below (s₁.setTop (mkF m 0 #[.val (.long x0), .second] [])) _
    refine st1 _ ?_
    show Steps p.tables e below (T1.setTop (mkF m 3 #[.val (.long x0), .second] [(.ref b1)])) _
    refine XS.dup X1.here hx rfl (hb hby d1_3) rfl rfl ?_
    show Steps p.tables e below (T1.setTop (mkF m 4 #[.val (.long x0), .second] [(.ref b1), (.ref b1)])) _
    refine X1.ldc2Long hx hown (mvT hZ (hw _ (List.mem_of_getElem? (i := 6) rfl))) (g := (mkF m 4 #[.val (.long x0), .second] [(.ref b1), (.ref b1)])) rfl (hb hby d1_4) _ ?_
    show Steps p.tables e below (T1.setTop (mkF m 7 #[.val (.long x0), .second] [(.long (4194304 : Int64)), (.ref b1), (.ref b1)])) _
    refine XS.lloadN X1.here hx rfl (hb hby d1_7) rfl ?_
    show Steps p.tables e below (T1.setTop (mkF m 8 #[.val (.long x0), .second] [(.long x0), (.long (4194304 : Int64)), (.ref b1), (.ref b1)])) _
    refine X1.ldc2Long hx hown (mvT hZ (hw _ (List.mem_of_getElem? (i := 7) rfl))) (g := (mkF m 8 #[.val (.long x0), .second] [(.long x0), (.long (4194304 : Int64)), (.ref b1), (.ref b1)])) rfl (hb hby d1_8) _ ?_
    show Steps p.tables e below (T1.setTop (mkF m 11 #[.val (.long x0), .second] [(.long (8 : Int64)), (.long x0), (.long (4194304 : Int64)), (.ref b1), (.ref b1)])) _
    refine XS.ldiv X1.here hx rfl (hb hby d1_11) rfl (by decide) ?_
    show Steps p.tables e below (T1.setTop (mkF m 12 #[.val (.long x0), .second] [(.long (x0 / (8 : Int64))), (.long (4194304 : Int64)), (.ref b1), (.ref b1)])) _
    refine XS.lloadN X1.here hx rfl (hb hby d1_12) rfl ?_
    show Steps p.tables e below (T1.setTop (mkF m 13 #[.val (.long x0), .second] [(.long x0), (.long (x0 / (8 : Int64))), (.long (4194304 : Int64)), (.ref b1), (.ref b1)])) _
    refine X1.ldc2Long hx hown (mvT hZ (hw _ (List.mem_of_getElem? (i := 8) rfl))) (g := (mkF m 13 #[.val (.long x0), .second] [(.long x0), (.long (x0 / (8 : Int64))), (.long (4194304 : Int64)), (.ref b1), (.ref b1)])) rfl (hb hby d1_13) _ ?_
    show Steps p.tables e below (T1.setTop (mkF m 16 #[.val (.long x0), .second] [(.long (4 : Int64)), (.long x0), (.long (x0 / (8 : Int64))), (.long (4194304 : Int64)), (.ref b1), (.ref b1)])) _
    refine XS.ldiv X1.here hx rfl (hb hby d1_16) rfl (by decide) ?_
    show Steps p.tables e below (T1.setTop (mkF m 17 #[.val (.long x0), .second] [(.long (x0 / (4 : Int64))), (.long (x0 / (8 : Int64))), (.long (4194304 : Int64)), (.ref b1), (.ref b1)])) _
    refine st5.trans ?_
    show Steps p.tables e below (T5.setTop (mkF m 20 #[.val (.long x0), .second] [(.ref b1)])) _
    jvm_step X5.here [X5.here.top, hx, (hb hby d1_20), X5.method', hret, Value.isRef, FieldType.isReference]
    first | (intro acts; rw [hr _ acts rfl rfl rfl]) | rw [hr _ _ rfl rfl rfl]
    exact Steps.refl _
  · show Q1 Z x0 h0 n0 _ T5.heap _
    rw [e5]
    exact ⟨b1, rfl, N5, K5, sz_b1, G5_0, G5_1, G5_2, G5_3⟩
-- body 5: com/example/parley/parley/transport/WaitingOutput$Limits.perClient:()J
theorem d5_0 : decode prog_24_method_6_code 0 = .ok (.aload_n 0, 1) := by decide +kernel
theorem d5_1 : decode prog_24_method_6_code 1 = .ok (.getfield 7, 3) := by decide +kernel
theorem d5_4 : decode prog_24_method_6_code 4 = .ok (.lreturn, 1) := by decide +kernel
theorem ef_5 (m : MethodId) (x0 : Addr) : entryFrame m #[(.ref x0)] 1 = mkF m 0 #[.val (.ref x0)] [] := by first | (simp [entryFrame, mkF, argsToLocals, Value.category]; done) | rfl
def f5 (w_perClient_x0 : Int64) : Int64 := w_perClient_x0
def Q5 (Z : State) (x0 : Addr) (w_perClient_x0 : Int64) (h0 : Heap) (n0 : Nat) (v : Option Value) (h : Heap) (L : List Loc) : Prop := v = some (.long (f5 w_perClient_x0)) ∧ Fr n0 L ∧ h = h0
set_option maxRecDepth 65536 in
set_option maxHeartbeats 40000000 in
theorem rm5 (l : Launch) (Z : State) (a0 : Array Value) (hw : ∀ d ∈ tables_1, d.before a0 Z = true) (ws : List Jvm.Cond) (x0 : Addr) (w_perClient_x0 : Int64) (h0 : Heap) (n0 : Nat) (Z0 : n0 ≤ h0.size) (F_x0_perClient : Fld Z h0 x0 "com/example/parley/parley/transport/WaitingOutput$Limits" "perClient" "J" (.long w_perClient_x0)) :
    MetFree l (⟨"com/example/parley/parley/transport/WaitingOutput$Limits", "perClient", "()J"⟩ : MethodName) (head1 (Jvm.Cond.code (⟨"com/example/parley/parley/transport/WaitingOutput$Limits", "perClient", "()J"⟩ : MethodName) prog_24_method_6_code 1 (some .long) :: ws) ({ frames := 0, cells := 0, slots := 0, locals := 0 } : Room)) (fun a U => a = #[(.ref x0)] ∧ Z.Warmed39 U.vm ∧ U.heap = h0) (fun _ _ _ _ _ => True) (fun _ U o U' => ∃ v L, o = .returned v ∧ Q5 Z x0 w_perClient_x0 h0 n0 v U'.heap L ∧ FrameEnd U o U' L ({ frames := 0, cells := 0, slots := 0, locals := 0 } : Room).cells ({ frames := 0, cells := 0, slots := 0, locals := 0 } : Room).slots) := by
  refine MetFree.of_bodySF (plainFor_of_name pn_1) hisR ?_
  intro p e s m args below meth c s₁ Bd hml0 hP hK0
  obtain ⟨rfl, hZ, hh⟩ := hP
  have hx := Bd.exec
  have hby := Bd.bytes
  have hml : c.maxLocals = 1 := hml0
  have hown : s.vm.findClass "com/example/parley/parley/transport/WaitingOutput$Limits" = some m.cls := findClass_of_methodNamed Bd.named
  have hnm := (name_of_methodNamed Bd.named Bd.method).1
  have hret : meth.sig.returnType = some .long := Bd.returns
  have hlk : meth.locks = false := Bd.notSynchronized
  have X0 : Stand p l e ({ frames := 0, cells := 0, slots := 0, locals := 0 } : Room) s m #[(.ref x0)] below meth c s₁ [] 0 0 := Stand.of_body Bd
  have e0 : s₁.heap = h0 := by rw [← hh, Bd.state]; rfl
  have N0 := Fr.nil n0
  have pre0 : ∀ t, Steps p.tables e below (s₁.setTop (mkF m 0 #[.val (.ref x0)] [])) t → Steps p.tables e below (s₁.setTop (entryFrame m #[(.ref x0)] 1)) t := fun t k => castTop (ef_5 m x0) k
  obtain ⟨T1, X1, e1, st1⟩ := getF X0 hx hZ hown (host := "") (Or.inl (hw _ (List.mem_of_getElem? (i := 20) rfl))) Via.refl e0 F_x0_perClient (g := (mkF m 1 #[.val (.ref x0)] [(.ref x0)])) rfl rfl (hb hby d5_1)
  obtain ⟨fs, hr, hrun, hended, hW, hsame⟩ := X1.leave (v := some (.long w_perClient_x0)) (fun h => by rw [hret] at h; cases h)
  refine ⟨_, _, pre0 _ ?_, hrun, hended, _, _, rfl, ?_, ⟨_, rfl⟩, hW, hsame.mono (by decide) (by decide)⟩
  · show Steps p.tables e below (s₁.setTop (mkF m 0 #[.val (.ref x0)] [])) _
    refine XS.aloadN X0.here hx rfl (hb hby d5_0) rfl rfl ?_
    show Steps p.tables e below (s₁.setTop (mkF m 1 #[.val (.ref x0)] [(.ref x0)])) _
    refine st1 _ ?_
    show Steps p.tables e below (T1.setTop (mkF m 4 #[.val (.ref x0)] [(.long w_perClient_x0)])) _
    exact X1.lreturnOut hx hret (hb hby d5_4) hr
  · show Q5 Z x0 w_perClient_x0 h0 n0 _ T1.heap _
    rw [e1]
    have rr : f5 w_perClient_x0 = w_perClient_x0 := rfl
    exact ⟨congrArg (fun z => some (Value.long z)) rr.symm, N0, rfl⟩
-- body 6: com/example/parley/parley/transport/WaitingOutput$Limits.perAddress:()J
theorem d6_0 : decode prog_24_method_7_code 0 = .ok (.aload_n 0, 1) := by decide +kernel
theorem d6_1 : decode prog_24_method_7_code 1 = .ok (.getfield 13, 3) := by decide +kernel
theorem d6_4 : decode prog_24_method_7_code 4 = .ok (.lreturn, 1) := by decide +kernel
theorem ef_6 (m : MethodId) (x0 : Addr) : entryFrame m #[(.ref x0)] 1 = mkF m 0 #[.val (.ref x0)] [] := by first | (simp [entryFrame, mkF, argsToLocals, Value.category]; done) | rfl
def f6 (w_perAddress_x0 : Int64) : Int64 := w_perAddress_x0
def Q6 (Z : State) (x0 : Addr) (w_perAddress_x0 : Int64) (h0 : Heap) (n0 : Nat) (v : Option Value) (h : Heap) (L : List Loc) : Prop := v = some (.long (f6 w_perAddress_x0)) ∧ Fr n0 L ∧ h = h0
set_option maxRecDepth 65536 in
set_option maxHeartbeats 40000000 in
theorem rm6 (l : Launch) (Z : State) (a0 : Array Value) (hw : ∀ d ∈ tables_1, d.before a0 Z = true) (ws : List Jvm.Cond) (x0 : Addr) (w_perAddress_x0 : Int64) (h0 : Heap) (n0 : Nat) (Z0 : n0 ≤ h0.size) (F_x0_perAddress : Fld Z h0 x0 "com/example/parley/parley/transport/WaitingOutput$Limits" "perAddress" "J" (.long w_perAddress_x0)) :
    MetFree l (⟨"com/example/parley/parley/transport/WaitingOutput$Limits", "perAddress", "()J"⟩ : MethodName) (head1 (Jvm.Cond.code (⟨"com/example/parley/parley/transport/WaitingOutput$Limits", "perAddress", "()J"⟩ : MethodName) prog_24_method_7_code 1 (some .long) :: ws) ({ frames := 0, cells := 0, slots := 0, locals := 0 } : Room)) (fun a U => a = #[(.ref x0)] ∧ Z.Warmed39 U.vm ∧ U.heap = h0) (fun _ _ _ _ _ => True) (fun _ U o U' => ∃ v L, o = .returned v ∧ Q6 Z x0 w_perAddress_x0 h0 n0 v U'.heap L ∧ FrameEnd U o U' L ({ frames := 0, cells := 0, slots := 0, locals := 0 } : Room).cells ({ frames := 0, cells := 0, slots := 0, locals := 0 } : Room).slots) := by
  refine MetFree.of_bodySF (plainFor_of_name pn_1) hisR ?_
  intro p e s m args below meth c s₁ Bd hml0 hP hK0
  obtain ⟨rfl, hZ, hh⟩ := hP
  have hx := Bd.exec
  have hby := Bd.bytes
  have hml : c.maxLocals = 1 := hml0
  have hown : s.vm.findClass "com/example/parley/parley/transport/WaitingOutput$Limits" = some m.cls := findClass_of_methodNamed Bd.named
  have hnm := (name_of_methodNamed Bd.named Bd.method).1
  have hret : meth.sig.returnType = some .long := Bd.returns
  have hlk : meth.locks = false := Bd.notSynchronized
  have X0 : Stand p l e ({ frames := 0, cells := 0, slots := 0, locals := 0 } : Room) s m #[(.ref x0)] below meth c s₁ [] 0 0 := Stand.of_body Bd
  have e0 : s₁.heap = h0 := by rw [← hh, Bd.state]; rfl
  have N0 := Fr.nil n0
  have pre0 : ∀ t, Steps p.tables e below (s₁.setTop (mkF m 0 #[.val (.ref x0)] [])) t → Steps p.tables e below (s₁.setTop (entryFrame m #[(.ref x0)] 1)) t := fun t k => castTop (ef_6 m x0) k
  obtain ⟨T1, X1, e1, st1⟩ := getF X0 hx hZ hown (host := "") (Or.inl (hw _ (List.mem_of_getElem? (i := 22) rfl))) Via.refl e0 F_x0_perAddress (g := (mkF m 1 #[.val (.ref x0)] [(.ref x0)])) rfl rfl (hb hby d6_1)
  obtain ⟨fs, hr, hrun, hended, hW, hsame⟩ := X1.leave (v := some (.long w_perAddress_x0)) (fun h => by rw [hret] at h; cases h)
  refine ⟨_, _, pre0 _ ?_, hrun, hended, _, _, rfl, ?_, ⟨_, rfl⟩, hW, hsame.mono (by decide) (by decide)⟩
  · show Steps p.tables e below (s₁.setTop (mkF m 0 #[.val (.ref x0)] [])) _
    refine XS.aloadN X0.here hx rfl (hb hby d6_0) rfl rfl ?_
    show Steps p.tables e below (s₁.setTop (mkF m 1 #[.val (.ref x0)] [(.ref x0)])) _
    refine st1 _ ?_
    show Steps p.tables e below (T1.setTop (mkF m 4 #[.val (.ref x0)] [(.long w_perAddress_x0)])) _
    exact X1.lreturnOut hx hret (hb hby d6_4) hr
  · show Q6 Z x0 w_perAddress_x0 h0 n0 _ T1.heap _
    rw [e1]
    have rr : f6 w_perAddress_x0 = w_perAddress_x0 := rfl
    exact ⟨congrArg (fun z => some (Value.long z)) rr.symm, N0, rfl⟩
-- body 7: com/example/parley/parley/transport/WaitingOutput$Limits.total:()J
theorem d7_0 : decode prog_24_method_8_code 0 = .ok (.aload_n 0, 1) := by decide +kernel
theorem d7_1 : decode prog_24_method_8_code 1 = .ok (.getfield 16, 3) := by decide +kernel
theorem d7_4 : decode prog_24_method_8_code 4 = .ok (.lreturn, 1) := by decide +kernel
theorem ef_7 (m : MethodId) (x0 : Addr) : entryFrame m #[(.ref x0)] 1 = mkF m 0 #[.val (.ref x0)] [] := by first | (simp [entryFrame, mkF, argsToLocals, Value.category]; done) | rfl
def f7 (w_total_x0 : Int64) : Int64 := w_total_x0
def Q7 (Z : State) (x0 : Addr) (w_total_x0 : Int64) (h0 : Heap) (n0 : Nat) (v : Option Value) (h : Heap) (L : List Loc) : Prop := v = some (.long (f7 w_total_x0)) ∧ Fr n0 L ∧ h = h0
set_option maxRecDepth 65536 in
set_option maxHeartbeats 40000000 in
theorem rm7 (l : Launch) (Z : State) (a0 : Array Value) (hw : ∀ d ∈ tables_1, d.before a0 Z = true) (ws : List Jvm.Cond) (x0 : Addr) (w_total_x0 : Int64) (h0 : Heap) (n0 : Nat) (Z0 : n0 ≤ h0.size) (F_x0_total : Fld Z h0 x0 "com/example/parley/parley/transport/WaitingOutput$Limits" "total" "J" (.long w_total_x0)) :
    MetFree l (⟨"com/example/parley/parley/transport/WaitingOutput$Limits", "total", "()J"⟩ : MethodName) (head1 (Jvm.Cond.code (⟨"com/example/parley/parley/transport/WaitingOutput$Limits", "total", "()J"⟩ : MethodName) prog_24_method_8_code 1 (some .long) :: ws) ({ frames := 0, cells := 0, slots := 0, locals := 0 } : Room)) (fun a U => a = #[(.ref x0)] ∧ Z.Warmed39 U.vm ∧ U.heap = h0) (fun _ _ _ _ _ => True) (fun _ U o U' => ∃ v L, o = .returned v ∧ Q7 Z x0 w_total_x0 h0 n0 v U'.heap L ∧ FrameEnd U o U' L ({ frames := 0, cells := 0, slots := 0, locals := 0 } : Room).cells ({ frames := 0, cells := 0, slots := 0, locals := 0 } : Room).slots) := by
  refine MetFree.of_bodySF (plainFor_of_name pn_1) hisR ?_
  intro p e s m args below meth c s₁ Bd hml0 hP hK0
  obtain ⟨rfl, hZ, hh⟩ := hP
  have hx := Bd.exec
  have hby := Bd.bytes
  have hml : c.maxLocals = 1 := hml0
  have hown : s.vm.findClass "com/example/parley/parley/transport/WaitingOutput$Limits" = some m.cls := findClass_of_methodNamed Bd.named
  have hnm := (name_of_methodNamed Bd.named Bd.method).1
  have hret : meth.sig.returnType = some .long := Bd.returns
  have hlk : meth.locks = false := Bd.notSynchronized
  have X0 : Stand p l e ({ frames := 0, cells := 0, slots := 0, locals := 0 } : Room) s m #[(.ref x0)] below meth c s₁ [] 0 0 := Stand.of_body Bd
  have e0 : s₁.heap = h0 := by rw [← hh, Bd.state]; rfl
  have N0 := Fr.nil n0
  have pre0 : ∀ t, Steps p.tables e below (s₁.setTop (mkF m 0 #[.val (.ref x0)] [])) t → Steps p.tables e below (s₁.setTop (entryFrame m #[(.ref x0)] 1)) t := fun t k => castTop (ef_7 m x0) k
  obtain ⟨T1, X1, e1, st1⟩ := getF X0 hx hZ hown (host := "") (Or.inl (hw _ (List.mem_of_getElem? (i := 24) rfl))) Via.refl e0 F_x0_total (g := (mkF m 1 #[.val (.ref x0)] [(.ref x0)])) rfl rfl (hb hby d7_1)
  obtain ⟨fs, hr, hrun, hended, hW, hsame⟩ := X1.leave (v := some (.long w_total_x0)) (fun h => by rw [hret] at h; cases h)
  refine ⟨_, _, pre0 _ ?_, hrun, hended, _, _, rfl, ?_, ⟨_, rfl⟩, hW, hsame.mono (by decide) (by decide)⟩
  · show Steps p.tables e below (s₁.setTop (mkF m 0 #[.val (.ref x0)] [])) _
    refine XS.aloadN X0.here hx rfl (hb hby d7_0) rfl rfl ?_
    show Steps p.tables e below (s₁.setTop (mkF m 1 #[.val (.ref x0)] [(.ref x0)])) _
    refine st1 _ ?_
    show Steps p.tables e below (T1.setTop (mkF m 4 #[.val (.ref x0)] [(.long w_total_x0)])) _
    exact X1.lreturnOut hx hret (hb hby d7_4) hr
  · show Q7 Z x0 w_total_x0 h0 n0 _ T1.heap _
    rw [e1]
    have rr : f7 w_total_x0 = w_total_x0 := rfl
    exact ⟨congrArg (fun z => some (Value.long z)) rr.symm, N0, rfl⟩
-- body 8: com/example/parley/parley/transport/LimitsForHeapPinLaw.truncQuotient:(JJJJJ)Z
theorem d8_0 : decode method_2_code 0 = .ok (.lload_n 2, 1) := by decide +kernel
theorem d8_1 : decode method_2_code 1 = .ok (.lload 6, 2) := by decide +kernel
theorem d8_3 : decode method_2_code 3 = .ok (.lcmp, 1) := by decide +kernel
theorem d8_4 : decode method_2_code 4 = .ok (.ifCond .lt 10, 3) := by decide +kernel
theorem d8_7 : decode method_2_code 7 = .ok (.lload_n 2, 1) := by decide +kernel
theorem d8_8 : decode method_2_code 8 = .ok (.lload 8, 2) := by decide +kernel
theorem d8_10 : decode method_2_code 10 = .ok (.lcmp, 1) := by decide +kernel
theorem d8_11 : decode method_2_code 11 = .ok (.ifCond .le 5, 3) := by decide +kernel
theorem d8_14 : decode method_2_code 14 = .ok (.iconst 0, 1) := by decide +kernel
theorem d8_15 : decode method_2_code 15 = .ok (.ireturn, 1) := by decide +kernel
theorem d8_16 : decode method_2_code 16 = .ok (.lload_n 0, 1) := by decide +kernel
theorem d8_17 : decode method_2_code 17 = .ok (.lload_n 2, 1) := by decide +kernel
theorem d8_18 : decode method_2_code 18 = .ok (.lload 4, 2) := by decide +kernel
theorem d8_20 : decode method_2_code 20 = .ok (.lmul, 1) := by decide +kernel
theorem d8_21 : decode method_2_code 21 = .ok (.lsub, 1) := by decide +kernel
theorem d8_22 : decode method_2_code 22 = .ok (.lstore 10, 2) := by decide +kernel
theorem d8_24 : decode method_2_code 24 = .ok (.lload_n 0, 1) := by decide +kernel
theorem d8_25 : decode method_2_code 25 = .ok (.lconst 0, 1) := by decide +kernel
theorem d8_26 : decode method_2_code 26 = .ok (.lcmp, 1) := by decide +kernel
theorem d8_27 : decode method_2_code 27 = .ok (.ifCond .lt 26, 3) := by decide +kernel
theorem d8_30 : decode method_2_code 30 = .ok (.lload 10, 2) := by decide +kernel
theorem d8_32 : decode method_2_code 32 = .ok (.lconst 0, 1) := by decide +kernel
theorem d8_33 : decode method_2_code 33 = .ok (.lcmp, 1) := by decide +kernel
theorem d8_34 : decode method_2_code 34 = .ok (.ifCond .lt 17, 3) := by decide +kernel
theorem d8_37 : decode method_2_code 37 = .ok (.lload 10, 2) := by decide +kernel
theorem d8_39 : decode method_2_code 39 = .ok (.lload 4, 2) := by decide +kernel
theorem d8_41 : decode method_2_code 41 = .ok (.lconst 1, 1) := by decide +kernel
theorem d8_42 : decode method_2_code 42 = .ok (.lsub, 1) := by decide +kernel
theorem d8_43 : decode method_2_code 43 = .ok (.lcmp, 1) := by decide +kernel
theorem d8_44 : decode method_2_code 44 = .ok (.ifCond .gt 7, 3) := by decide +kernel
theorem d8_47 : decode method_2_code 47 = .ok (.iconst 1, 1) := by decide +kernel
theorem d8_48 : decode method_2_code 48 = .ok (.goto 4, 3) := by decide +kernel
theorem d8_51 : decode method_2_code 51 = .ok (.iconst 0, 1) := by decide +kernel
theorem d8_52 : decode method_2_code 52 = .ok (.ireturn, 1) := by decide +kernel
theorem d8_53 : decode method_2_code 53 = .ok (.lload 10, 2) := by decide +kernel
theorem d8_55 : decode method_2_code 55 = .ok (.lconst 0, 1) := by decide +kernel
theorem d8_56 : decode method_2_code 56 = .ok (.lcmp, 1) := by decide +kernel
theorem d8_57 : decode method_2_code 57 = .ok (.ifCond .gt 18, 3) := by decide +kernel
theorem d8_60 : decode method_2_code 60 = .ok (.lload 10, 2) := by decide +kernel
theorem d8_62 : decode method_2_code 62 = .ok (.lload 4, 2) := by decide +kernel
theorem d8_64 : decode method_2_code 64 = .ok (.lconst 1, 1) := by decide +kernel
theorem d8_65 : decode method_2_code 65 = .ok (.lsub, 1) := by decide +kernel
theorem d8_66 : decode method_2_code 66 = .ok (.lneg, 1) := by decide +kernel
theorem d8_67 : decode method_2_code 67 = .ok (.lcmp, 1) := by decide +kernel
theorem d8_68 : decode method_2_code 68 = .ok (.ifCond .lt 7, 3) := by decide +kernel
theorem d8_71 : decode method_2_code 71 = .ok (.iconst 1, 1) := by decide +kernel
theorem d8_72 : decode method_2_code 72 = .ok (.goto 4, 3) := by decide +kernel
theorem d8_75 : decode method_2_code 75 = .ok (.iconst 0, 1) := by decide +kernel
theorem d8_76 : decode method_2_code 76 = .ok (.ireturn, 1) := by decide +kernel
theorem pn_2 : plainName "com/example/parley/parley/transport/LimitsForHeapPinLaw" = true := by first | (simp [plainName, overriddenIn]; done) | decide +kernel
theorem ef_8 (m : MethodId) (x0 : Int64) (x1 : Int64) (x2 : Int64) (x3 : Int64) (x4 : Int64) : entryFrame m #[(.long x0), (.long x1), (.long x2), (.long x3), (.long x4)] 12 = mkF m 0 #[.val (.long x0), .second, .val (.long x1), .second, .val (.long x2), .second, .val (.long x3), .second, .val (.long x4), .second, .unset, .unset] [] := by first | (simp [entryFrame, mkF, argsToLocals, Value.category]; done) | rfl
def f8_v5 (x0 : Int64) (x1 : Int64) (x2 : Int64) (x3 : Int64) (x4 : Int64) : Int64 := (x0 - (x1 * x2))
def f8_j12 (x0 : Int64) (x1 : Int64) (x2 : Int64) (x3 : Int64) (x4 : Int64) : Int32 := if ifCond.holds .lt (own_cmp (f8_v5 x0 x1 x2 x3 x4) ((-(x2 - (1 : Int64))))) = true then (0 : Int32) else (1 : Int32)
def f8_j16 (x0 : Int64) (x1 : Int64) (x2 : Int64) (x3 : Int64) (x4 : Int64) : Int32 := if ifCond.holds .gt (own_cmp (f8_v5 x0 x1 x2 x3 x4) (0 : Int64)) = true then (0 : Int32) else (f8_j12 x0 x1 x2 x3 x4)
def f8_j23 (x0 : Int64) (x1 : Int64) (x2 : Int64) (x3 : Int64) (x4 : Int64) : Int32 := if ifCond.holds .gt (own_cmp (f8_v5 x0 x1 x2 x3 x4) (x2 - (1 : Int64))) = true then (0 : Int32) else (1 : Int32)
def f8_j27 (x0 : Int64) (x1 : Int64) (x2 : Int64) (x3 : Int64) (x4 : Int64) : Int32 := if ifCond.holds .lt (own_cmp (f8_v5 x0 x1 x2 x3 x4) (0 : Int64)) = true then (0 : Int32) else (f8_j23 x0 x1 x2 x3 x4)
def f8 (x0 : Int64) (x1 : Int64) (x2 : Int64) (x3 : Int64) (x4 : Int64) : Int32 := (if ifCond.holds .lt (own_cmp x1 x3) = true then (0 : Int32) else (if ifCond.holds .le (own_cmp x1 x4) = true then (if ifCond.holds .lt (own_cmp x0 (0 : Int64)) = true then (nar .boolean (f8_j16 x0 x1 x2 x3 x4)) else (nar .boolean (f8_j27 x0 x1 x2 x3 x4))) else (0 : Int32)))
def Q8 (Z : State) (x0 : Int64) (x1 : Int64) (x2 : Int64) (x3 : Int64) (x4 : Int64) (h0 : Heap) (n0 : Nat) (v : Option Value) (h : Heap) (L : List Loc) : Prop := v = some (.int (f8 x0 x1 x2 x3 x4)) ∧ Fr n0 L ∧ h = h0
set_option maxRecDepth 65536 in
set_option maxHeartbeats 40000000 in
theorem rm8 (l : Launch) (Z : State) (a0 : Array Value) (hw : ∀ d ∈ tables_1, d.before a0 Z = true) (ws : List Jvm.Cond) (x0 : Int64) (x1 : Int64) (x2 : Int64) (x3 : Int64) (x4 : Int64) (h0 : Heap) (n0 : Nat) (Z0 : n0 ≤ h0.size) :
    MetFree l (⟨"com/example/parley/parley/transport/LimitsForHeapPinLaw", "truncQuotient", "(JJJJJ)Z"⟩ : MethodName) (head1 (Jvm.Cond.code (⟨"com/example/parley/parley/transport/LimitsForHeapPinLaw", "truncQuotient", "(JJJJJ)Z"⟩ : MethodName) method_2_code 12 (some .boolean) :: ws) ({ frames := 0, cells := 0, slots := 0, locals := 0 } : Room)) (fun a U => a = #[(.long x0), (.long x1), (.long x2), (.long x3), (.long x4)] ∧ Z.Warmed39 U.vm ∧ U.heap = h0) (fun _ _ _ _ _ => True) (fun _ U o U' => ∃ v L, o = .returned v ∧ Q8 Z x0 x1 x2 x3 x4 h0 n0 v U'.heap L ∧ FrameEnd U o U' L ({ frames := 0, cells := 0, slots := 0, locals := 0 } : Room).cells ({ frames := 0, cells := 0, slots := 0, locals := 0 } : Room).slots) := by
  refine MetFree.of_bodySF (plainFor_of_name pn_2) hisR ?_
  intro p e s m args below meth c s₁ Bd hml0 hP hK0
  obtain ⟨rfl, hZ, hh⟩ := hP
  have hx := Bd.exec
  have hby := Bd.bytes
  have hml : c.maxLocals = 12 := hml0
  have hown : s.vm.findClass "com/example/parley/parley/transport/LimitsForHeapPinLaw" = some m.cls := findClass_of_methodNamed Bd.named
  have hnm := (name_of_methodNamed Bd.named Bd.method).1
  have hret : meth.sig.returnType = some .boolean := Bd.returns
  have hlk : meth.locks = false := Bd.notSynchronized
  have X0 : Stand p l e ({ frames := 0, cells := 0, slots := 0, locals := 0 } : Room) s m #[(.long x0), (.long x1), (.long x2), (.long x3), (.long x4)] below meth c s₁ [] 0 0 := Stand.of_body Bd
  have e0 : s₁.heap = h0 := by rw [← hh, Bd.state]; rfl
  have N0 := Fr.nil n0
  have pre0 : ∀ t, Steps p.tables e below (s₁.setTop (mkF m 0 #[.val (.long x0), .second, .val (.long x1), .second, .val (.long x2), .second, .val (.long x3), .second, .val (.long x4), .second, .unset, .unset] [])) t → Steps p.tables e below (s₁.setTop (entryFrame m #[(.long x0), (.long x1), (.long x2), (.long x3), (.long x4)] 12)) t := fun t k => castTop (ef_8 m x0 x1 x2 x3 x4) k
  have pre1 : ∀ t, Steps p.tables e below (s₁.setTop (mkF m 4 #[.val (.long x0), .second, .val (.long x1), .second, .val (.long x2), .second, .val (.long x3), .second, .val (.long x4), .second, .unset, .unset] [(.int (own_cmp x1 x3))])) t → Steps p.tables e below (s₁.setTop (entryFrame m #[(.long x0), (.long x1), (.long x2), (.long x3), (.long x4)] 12)) t := by
    intro t k
    refine pre0 _ ?_
    show Steps p.tables e below (s₁.setTop (mkF m 0 #[.val (.long x0), .second, .val (.long x1), .second, .val (.long x2), .second, .val (.long x3), .second, .val (.long x4), .second, .unset, .unset] [])) _
    refine XS.lloadN X0.here hx rfl (hb hby d8_0) rfl ?_
    show Steps p.tables e below (s₁.setTop (mkF m 1 #[.val (.long x0), .second, .val (.long x1), .second, .val (.long x2), .second, .val (.long x3), .second, .val (.long x4), .second, .unset, .unset] [(.long x1)])) _
    refine XS.lload X0.here hx rfl (hb hby d8_1) rfl ?_
    show Steps p.tables e below (s₁.setTop (mkF m 3 #[.val (.long x0), .second, .val (.long x1), .second, .val (.long x2), .second, .val (.long x3), .second, .val (.long x4), .second, .unset, .unset] [(.long x3), (.long x1)])) _
    refine XS.lcmp X0.here hx rfl (hb hby d8_3) rfl ?_
    exact k
  rcases Bool.eq_false_or_eq_true (ifCond.holds .lt (own_cmp x1 x3)) with hc2 | hc2
  · obtain ⟨fs, hr, hrun, hended, hW, hsame⟩ := X0.leave (v := some (.int (0 : Int32))) (fun h => by rw [hret] at h; cases h)
    refine ⟨_, _, pre1 _ ?_, hrun, hended, _, _, rfl, ?_, ⟨_, rfl⟩, hW, hsame.mono (by decide) (by decide)⟩
    · show Steps p.tables e below (s₁.setTop (mkF m 4 #[.val (.long x0), .second, .val (.long x1), .second, .val (.long x2), .second, .val (.long x3), .second, .val (.long x4), .second, .unset, .unset] [(.int (own_cmp x1 x3))])) _
      refine XS.ifYes X0.here hx rfl (pc0 := 4) (pc' := 14) rfl (hb hby d8_4) rfl hc2 (by decide) (by decide) ?_
      show Steps p.tables e below (s₁.setTop (mkF m 14 #[.val (.long x0), .second, .val (.long x1), .second, .val (.long x2), .second, .val (.long x3), .second, .val (.long x4), .second, .unset, .unset] [])) _
      refine XS.iconst X0.here hx rfl (hb hby d8_14) ?_
      show Steps p.tables e below (s₁.setTop (mkF m 15 #[.val (.long x0), .second, .val (.long x1), .second, .val (.long x2), .second, .val (.long x3), .second, .val (.long x4), .second, .unset, .unset] [(.int (0 : Int32))])) _
      exact retN X0 hx (t := .boolean) hret (by simp) (hb hby d8_15) hr
    · show Q8 Z x0 x1 x2 x3 x4 h0 n0 _ s₁.heap _
      rw [e0]
      have rr : f8 x0 x1 x2 x3 x4 = (0 : Int32) := if_pos hc2
      exact ⟨congrArg (fun z => some (Value.int z)) rr.symm, N0, rfl⟩
  · have pre3 : ∀ t, Steps p.tables e below (s₁.setTop (mkF m 11 #[.val (.long x0), .second, .val (.long x1), .second, .val (.long x2), .second, .val (.long x3), .second, .val (.long x4), .second, .unset, .unset] [(.int (own_cmp x1 x4))])) t → Steps p.tables e below (s₁.setTop (entryFrame m #[(.long x0), (.long x1), (.long x2), (.long x3), (.long x4)] 12)) t := by
      intro t k
      refine pre1 _ ?_
      show Steps p.tables e below (s₁.setTop (mkF m 4 #[.val (.long x0), .second, .val (.long x1), .second, .val (.long x2), .second, .val (.long x3), .second, .val (.long x4), .second, .unset, .unset] [(.int (own_cmp x1 x3))])) _
      refine XS.ifNo X0.here hx rfl (hb hby d8_4) rfl hc2 ?_
      show Steps p.tables e below (s₁.setTop (mkF m 7 #[.val (.long x0), .second, .val (.long x1), .second, .val (.long x2), .second, .val (.long x3), .second, .val (.long x4), .second, .unset, .unset] [])) _
      refine XS.lloadN X0.here hx rfl (hb hby d8_7) rfl ?_
      show Steps p.tables e below (s₁.setTop (mkF m 8 #[.val (.long x0), .second, .val (.long x1), .second, .val (.long x2), .second, .val (.long x3), .second, .val (.long x4), .second, .unset, .unset] [(.long x1)])) _
      refine XS.lload X0.here hx rfl (hb hby d8_8) rfl ?_
      show Steps p.tables e below (s₁.setTop (mkF m 10 #[.val (.long x0), .second, .val (.long x1), .second, .val (.long x2), .second, .val (.long x3), .second, .val (.long x4), .second, .unset, .unset] [(.long x4), (.long x1)])) _
      refine XS.lcmp X0.here hx rfl (hb hby d8_10) rfl ?_
      exact k
    rcases Bool.eq_false_or_eq_true (ifCond.holds .le (own_cmp x1 x4)) with hc4 | hc4
    · have pre6 : ∀ t, Steps p.tables e below (s₁.setTop (mkF m 27 #[.val (.long x0), .second, .val (.long x1), .second, .val (.long x2), .second, .val (.long x3), .second, .val (.long x4), .second, .val (.long (f8_v5 x0 x1 x2 x3 x4)), .second] [(.int (own_cmp x0 (0 : Int64)))])) t → Steps p.tables e below (s₁.setTop (entryFrame m #[(.long x0), (.long x1), (.long x2), (.long x3), (.long x4)] 12)) t := by
        intro t k
        refine pre3 _ ?_
        show Steps p.tables e below (s₁.setTop (mkF m 11 #[.val (.long x0), .second, .val (.long x1), .second, .val (.long x2), .second, .val (.long x3), .second, .val (.long x4), .second, .unset, .unset] [(.int (own_cmp x1 x4))])) _
        refine XS.ifYes X0.here hx rfl (pc0 := 11) (pc' := 16) rfl (hb hby d8_11) rfl hc4 (by decide) (by decide) ?_
        show Steps p.tables e below (s₁.setTop (mkF m 16 #[.val (.long x0), .second, .val (.long x1), .second, .val (.long x2), .second, .val (.long x3), .second, .val (.long x4), .second, .unset, .unset] [])) _
        refine XS.lloadN X0.here hx rfl (hb hby d8_16) rfl ?_
        show Steps p.tables e below (s₁.setTop (mkF m 17 #[.val (.long x0), .second, .val (.long x1), .second, .val (.long x2), .second, .val (.long x3), .second, .val (.long x4), .second, .unset, .unset] [(.long x0)])) _
        refine XS.lloadN X0.here hx rfl (hb hby d8_17) rfl ?_
        show Steps p.tables e below (s₁.setTop (mkF m 18 #[.val (.long x0), .second, .val (.long x1), .second, .val (.long x2), .second, .val (.long x3), .second, .val (.long x4), .second, .unset, .unset] [(.long x1), (.long x0)])) _
        refine XS.lload X0.here hx rfl (hb hby d8_18) rfl ?_
        show Steps p.tables e below (s₁.setTop (mkF m 20 #[.val (.long x0), .second, .val (.long x1), .second, .val (.long x2), .second, .val (.long x3), .second, .val (.long x4), .second, .unset, .unset] [(.long x2), (.long x1), (.long x0)])) _
        refine XS.lmul X0.here hx rfl (hb hby d8_20) rfl ?_
        show Steps p.tables e below (s₁.setTop (mkF m 21 #[.val (.long x0), .second, .val (.long x1), .second, .val (.long x2), .second, .val (.long x3), .second, .val (.long x4), .second, .unset, .unset] [(.long (x1 * x2)), (.long x0)])) _
        refine XS.lsub X0.here hx rfl (hb hby d8_21) rfl ?_
        show Steps p.tables e below (s₁.setTop (mkF m 22 #[.val (.long x0), .second, .val (.long x1), .second, .val (.long x2), .second, .val (.long x3), .second, .val (.long x4), .second, .unset, .unset] [(.long (x0 - (x1 * x2)))])) _
        refine XS.lstore X0.here hx rfl (hb hby d8_22) rfl (l' := #[.val (.long x0), .second, .val (.long x1), .second, .val (.long x2), .second, .val (.long x3), .second, .val (.long x4), .second, .val (.long (f8_v5 x0 x1 x2 x3 x4)), .second]) rfl ?_
        show Steps p.tables e below (s₁.setTop (mkF m 24 #[.val (.long x0), .second, .val (.long x1), .second, .val (.long x2), .second, .val (.long x3), .second, .val (.long x4), .second, .val (.long (f8_v5 x0 x1 x2 x3 x4)), .second] [])) _
        refine XS.lloadN X0.here hx rfl (hb hby d8_24) rfl ?_
        show Steps p.tables e below (s₁.setTop (mkF m 25 #[.val (.long x0), .second, .val (.long x1), .second, .val (.long x2), .second, .val (.long x3), .second, .val (.long x4), .second, .val (.long (f8_v5 x0 x1 x2 x3 x4)), .second] [(.long x0)])) _
        refine XS.lconst X0.here hx rfl (hb hby d8_25) ?_
        show Steps p.tables e below (s₁.setTop (mkF m 26 #[.val (.long x0), .second, .val (.long x1), .second, .val (.long x2), .second, .val (.long x3), .second, .val (.long x4), .second, .val (.long (f8_v5 x0 x1 x2 x3 x4)), .second] [(.long (0 : Int64)), (.long x0)])) _
        refine XS.lcmp X0.here hx rfl (hb hby d8_26) rfl ?_
        exact k
      rcases Bool.eq_false_or_eq_true (ifCond.holds .lt (own_cmp x0 (0 : Int64))) with hc7 | hc7
      · have pre8 : ∀ t, Steps p.tables e below (s₁.setTop (mkF m 57 #[.val (.long x0), .second, .val (.long x1), .second, .val (.long x2), .second, .val (.long x3), .second, .val (.long x4), .second, .val (.long (f8_v5 x0 x1 x2 x3 x4)), .second] [(.int (own_cmp (f8_v5 x0 x1 x2 x3 x4) (0 : Int64)))])) t → Steps p.tables e below (s₁.setTop (entryFrame m #[(.long x0), (.long x1), (.long x2), (.long x3), (.long x4)] 12)) t := by
          intro t k
          refine pre6 _ ?_
          show Steps p.tables e below (s₁.setTop (mkF m 27 #[.val (.long x0), .second, .val (.long x1), .second, .val (.long x2), .second, .val (.long x3), .second, .val (.long x4), .second, .val (.long (f8_v5 x0 x1 x2 x3 x4)), .second] [(.int (own_cmp x0 (0 : Int64)))])) _
          refine XS.ifYes X0.here hx rfl (pc0 := 27) (pc' := 53) rfl (hb hby d8_27) rfl hc7 (by decide) (by decide) ?_
          show Steps p.tables e below (s₁.setTop (mkF m 53 #[.val (.long x0), .second, .val (.long x1), .second, .val (.long x2), .second, .val (.long x3), .second, .val (.long x4), .second, .val (.long (f8_v5 x0 x1 x2 x3 x4)), .second] [])) _
          refine XS.lload X0.here hx rfl (hb hby d8_53) rfl ?_
          show Steps p.tables e below (s₁.setTop (mkF m 55 #[.val (.long x0), .second, .val (.long x1), .second, .val (.long x2), .second, .val (.long x3), .second, .val (.long x4), .second, .val (.long (f8_v5 x0 x1 x2 x3 x4)), .second] [(.long (f8_v5 x0 x1 x2 x3 x4))])) _
          refine XS.lconst X0.here hx rfl (hb hby d8_55) ?_
          show Steps p.tables e below (s₁.setTop (mkF m 56 #[.val (.long x0), .second, .val (.long x1), .second, .val (.long x2), .second, .val (.long x3), .second, .val (.long x4), .second, .val (.long (f8_v5 x0 x1 x2 x3 x4)), .second] [(.long (0 : Int64)), (.long (f8_v5 x0 x1 x2 x3 x4))])) _
          refine XS.lcmp X0.here hx rfl (hb hby d8_56) rfl ?_
          exact k
        obtain ⟨T17, L17, X17, N17, e17, pre17⟩ : ∃ (T' : State) (L' : List Loc), Stand p l e ({ frames := 0, cells := 0, slots := 0, locals := 0 } : Room) s m #[(.long x0), (.long x1), (.long x2), (.long x3), (.long x4)] below meth c T' L' 0 0 ∧ Fr n0 L' ∧ T'.heap = h0 ∧ ∀ t, Steps p.tables e below (T'.setTop (mkF m 76 #[.val (.long x0), .second, .val (.long x1), .second, .val (.long x2), .second, .val (.long x3), .second, .val (.long x4), .second, .val (.long (f8_v5 x0 x1 x2 x3 x4)), .second] [(.int (f8_j16 x0 x1 x2 x3 x4))])) t → Steps p.tables e below (s₁.setTop (entryFrame m #[(.long x0), (.long x1), (.long x2), (.long x3), (.long x4)] 12)) t := by
          rcases Bool.eq_false_or_eq_true (ifCond.holds .gt (own_cmp (f8_v5 x0 x1 x2 x3 x4) (0 : Int64))) with hc9 | hc9
          · have pre18 : ∀ t, Steps p.tables e below (s₁.setTop (mkF m 76 #[.val (.long x0), .second, .val (.long x1), .second, .val (.long x2), .second, .val (.long x3), .second, .val (.long x4), .second, .val (.long (f8_v5 x0 x1 x2 x3 x4)), .second] [(.int (0 : Int32))])) t → Steps p.tables e below (s₁.setTop (entryFrame m #[(.long x0), (.long x1), (.long x2), (.long x3), (.long x4)] 12)) t := by
              intro t k
              refine pre8 _ ?_
              show Steps p.tables e below (s₁.setTop (mkF m 57 #[.val (.long x0), .second, .val (.long x1), .second, .val (.long x2), .second, .val (.long x3), .second, .val (.long x4), .second, .val (.long (f8_v5 x0 x1 x2 x3 x4)), .second] [(.int (own_cmp (f8_v5 x0 x1 x2 x3 x4) (0 : Int64)))])) _
              refine XS.ifYes X0.here hx rfl (pc0 := 57) (pc' := 75) rfl (hb hby d8_57) rfl hc9 (by decide) (by decide) ?_
              show Steps p.tables e below (s₁.setTop (mkF m 75 #[.val (.long x0), .second, .val (.long x1), .second, .val (.long x2), .second, .val (.long x3), .second, .val (.long x4), .second, .val (.long (f8_v5 x0 x1 x2 x3 x4)), .second] [])) _
              refine XS.iconst X0.here hx rfl (hb hby d8_75) ?_
              exact k
            have qj0 : (f8_j16 x0 x1 x2 x3 x4) = (0 : Int32) := if_pos hc9
            refine ⟨s₁, _, X0, N0, e0, fun t k => pre18 _ ?_⟩
            rw [qj0] at k
            exact k
          · have pre10 : ∀ t, Steps p.tables e below (s₁.setTop (mkF m 68 #[.val (.long x0), .second, .val (.long x1), .second, .val (.long x2), .second, .val (.long x3), .second, .val (.long x4), .second, .val (.long (f8_v5 x0 x1 x2 x3 x4)), .second] [(.int (own_cmp (f8_v5 x0 x1 x2 x3 x4) ((-(x2 - (1 : Int64))))))])) t → Steps p.tables e below (s₁.setTop (entryFrame m #[(.long x0), (.long x1), (.long x2), (.long x3), (.long x4)] 12)) t := by
              intro t k
              refine pre8 _ ?_
              show Steps p.tables e below (s₁.setTop (mkF m 57 #[.val (.long x0), .second, .val (.long x1), .second, .val (.long x2), .second, .val (.long x3), .second, .val (.long x4), .second, .val (.long (f8_v5 x0 x1 x2 x3 x4)), .second] [(.int (own_cmp (f8_v5 x0 x1 x2 x3 x4) (0 : Int64)))])) _
              refine XS.ifNo X0.here hx rfl (hb hby d8_57) rfl hc9 ?_
              show Steps p.tables e below (s₁.setTop (mkF m 60 #[.val (.long x0), .second, .val (.long x1), .second, .val (.long x2), .second, .val (.long x3), .second, .val (.long x4), .second, .val (.long (f8_v5 x0 x1 x2 x3 x4)), .second] [])) _
              refine XS.lload X0.here hx rfl (hb hby d8_60) rfl ?_
              show Steps p.tables e below (s₁.setTop (mkF m 62 #[.val (.long x0), .second, .val (.long x1), .second, .val (.long x2), .second, .val (.long x3), .second, .val (.long x4), .second, .val (.long (f8_v5 x0 x1 x2 x3 x4)), .second] [(.long (f8_v5 x0 x1 x2 x3 x4))])) _
              refine XS.lload X0.here hx rfl (hb hby d8_62) rfl ?_
              show Steps p.tables e below (s₁.setTop (mkF m 64 #[.val (.long x0), .second, .val (.long x1), .second, .val (.long x2), .second, .val (.long x3), .second, .val (.long x4), .second, .val (.long (f8_v5 x0 x1 x2 x3 x4)), .second] [(.long x2), (.long (f8_v5 x0 x1 x2 x3 x4))])) _
              refine XS.lconst X0.here hx rfl (hb hby d8_64) ?_
              show Steps p.tables e below (s₁.setTop (mkF m 65 #[.val (.long x0), .second, .val (.long x1), .second, .val (.long x2), .second, .val (.long x3), .second, .val (.long x4), .second, .val (.long (f8_v5 x0 x1 x2 x3 x4)), .second] [(.long (1 : Int64)), (.long x2), (.long (f8_v5 x0 x1 x2 x3 x4))])) _
              refine XS.lsub X0.here hx rfl (hb hby d8_65) rfl ?_
              show Steps p.tables e below (s₁.setTop (mkF m 66 #[.val (.long x0), .second, .val (.long x1), .second, .val (.long x2), .second, .val (.long x3), .second, .val (.long x4), .second, .val (.long (f8_v5 x0 x1 x2 x3 x4)), .second] [(.long (x2 - (1 : Int64))), (.long (f8_v5 x0 x1 x2 x3 x4))])) _
              refine XS.lneg X0.here hx rfl (hb hby d8_66) rfl ?_
              show Steps p.tables e below (s₁.setTop (mkF m 67 #[.val (.long x0), .second, .val (.long x1), .second, .val (.long x2), .second, .val (.long x3), .second, .val (.long x4), .second, .val (.long (f8_v5 x0 x1 x2 x3 x4)), .second] [(.long ((-(x2 - (1 : Int64))))), (.long (f8_v5 x0 x1 x2 x3 x4))])) _
              refine XS.lcmp X0.here hx rfl (hb hby d8_67) rfl ?_
              exact k
            obtain ⟨T13, L13, X13, N13, e13, pre13⟩ : ∃ (T' : State) (L' : List Loc), Stand p l e ({ frames := 0, cells := 0, slots := 0, locals := 0 } : Room) s m #[(.long x0), (.long x1), (.long x2), (.long x3), (.long x4)] below meth c T' L' 0 0 ∧ Fr n0 L' ∧ T'.heap = h0 ∧ ∀ t, Steps p.tables e below (T'.setTop (mkF m 76 #[.val (.long x0), .second, .val (.long x1), .second, .val (.long x2), .second, .val (.long x3), .second, .val (.long x4), .second, .val (.long (f8_v5 x0 x1 x2 x3 x4)), .second] [(.int (f8_j12 x0 x1 x2 x3 x4))])) t → Steps p.tables e below (s₁.setTop (entryFrame m #[(.long x0), (.long x1), (.long x2), (.long x3), (.long x4)] 12)) t := by
              rcases Bool.eq_false_or_eq_true (ifCond.holds .lt (own_cmp (f8_v5 x0 x1 x2 x3 x4) ((-(x2 - (1 : Int64)))))) with hc11 | hc11
              · have pre14 : ∀ t, Steps p.tables e below (s₁.setTop (mkF m 76 #[.val (.long x0), .second, .val (.long x1), .second, .val (.long x2), .second, .val (.long x3), .second, .val (.long x4), .second, .val (.long (f8_v5 x0 x1 x2 x3 x4)), .second] [(.int (0 : Int32))])) t → Steps p.tables e below (s₁.setTop (entryFrame m #[(.long x0), (.long x1), (.long x2), (.long x3), (.long x4)] 12)) t := by
                  intro t k
                  refine pre10 _ ?_
                  show Steps p.tables e below (s₁.setTop (mkF m 68 #[.val (.long x0), .second, .val (.long x1), .second, .val (.long x2), .second, .val (.long x3), .second, .val (.long x4), .second, .val (.long (f8_v5 x0 x1 x2 x3 x4)), .second] [(.int (own_cmp (f8_v5 x0 x1 x2 x3 x4) ((-(x2 - (1 : Int64))))))])) _
                  refine XS.ifYes X0.here hx rfl (pc0 := 68) (pc' := 75) rfl (hb hby d8_68) rfl hc11 (by decide) (by decide) ?_
                  show Steps p.tables e below (s₁.setTop (mkF m 75 #[.val (.long x0), .second, .val (.long x1), .second, .val (.long x2), .second, .val (.long x3), .second, .val (.long x4), .second, .val (.long (f8_v5 x0 x1 x2 x3 x4)), .second] [])) _
                  refine XS.iconst X0.here hx rfl (hb hby d8_75) ?_
                  exact k
                have qj0 : (f8_j12 x0 x1 x2 x3 x4) = (0 : Int32) := if_pos hc11
                refine ⟨s₁, _, X0, N0, e0, fun t k => pre14 _ ?_⟩
                rw [qj0] at k
                exact k
              · have pre15 : ∀ t, Steps p.tables e below (s₁.setTop (mkF m 76 #[.val (.long x0), .second, .val (.long x1), .second, .val (.long x2), .second, .val (.long x3), .second, .val (.long x4), .second, .val (.long (f8_v5 x0 x1 x2 x3 x4)), .second] [(.int (1 : Int32))])) t → Steps p.tables e below (s₁.setTop (entryFrame m #[(.long x0), (.long x1), (.long x2), (.long x3), (.long x4)] 12)) t := by
                  intro t k
                  refine pre10 _ ?_
                  show Steps p.tables e below (s₁.setTop (mkF m 68 #[.val (.long x0), .second, .val (.long x1), .second, .val (.long x2), .second, .val (.long x3), .second, .val (.long x4), .second, .val (.long (f8_v5 x0 x1 x2 x3 x4)), .second] [(.int (own_cmp (f8_v5 x0 x1 x2 x3 x4) ((-(x2 - (1 : Int64))))))])) _
                  refine XS.ifNo X0.here hx rfl (hb hby d8_68) rfl hc11 ?_
                  show Steps p.tables e below (s₁.setTop (mkF m 71 #[.val (.long x0), .second, .val (.long x1), .second, .val (.long x2), .second, .val (.long x3), .second, .val (.long x4), .second, .val (.long (f8_v5 x0 x1 x2 x3 x4)), .second] [])) _
                  refine XS.iconst X0.here hx rfl (hb hby d8_71) ?_
                  show Steps p.tables e below (s₁.setTop (mkF m 72 #[.val (.long x0), .second, .val (.long x1), .second, .val (.long x2), .second, .val (.long x3), .second, .val (.long x4), .second, .val (.long (f8_v5 x0 x1 x2 x3 x4)), .second] [(.int (1 : Int32))])) _
                  refine XS.goto X0.here hx rfl (pc0 := 72) (pc' := 76) rfl (hb hby d8_72) (by decide) (by decide) ?_
                  exact k
                have qj0 : (f8_j12 x0 x1 x2 x3 x4) = (1 : Int32) := if_neg (own_nt hc11)
                refine ⟨s₁, _, X0, N0, e0, fun t k => pre15 _ ?_⟩
                rw [qj0] at k
                exact k
            have qj0 : (f8_j16 x0 x1 x2 x3 x4) = (f8_j12 x0 x1 x2 x3 x4) := if_neg (own_nt hc9)
            refine ⟨T13, _, X13, N13, e13, fun t k => pre13 _ ?_⟩
            rw [qj0] at k
            exact k
        obtain ⟨fs, hr, hrun, hended, hW, hsame⟩ := X17.leave (v := some (.int (nar .boolean (f8_j16 x0 x1 x2 x3 x4)))) (fun h => by rw [hret] at h; cases h)
        refine ⟨_, _, pre17 _ ?_, hrun, hended, _, _, rfl, ?_, ⟨_, rfl⟩, hW, hsame.mono (by decide) (by decide)⟩
        · show Steps p.tables e below (T17.setTop (mkF m 76 #[.val (.long x0), .second, .val (.long x1), .second, .val (.long x2), .second, .val (.long x3), .second, .val (.long x4), .second, .val (.long (f8_v5 x0 x1 x2 x3 x4)), .second] [(.int (f8_j16 x0 x1 x2 x3 x4))])) _
          exact retN X17 hx (t := .boolean) hret (by simp) (hb hby d8_76) hr
        · show Q8 Z x0 x1 x2 x3 x4 h0 n0 _ T17.heap _
          rw [e17]
          have rr : f8 x0 x1 x2 x3 x4 = (nar .boolean (f8_j16 x0 x1 x2 x3 x4)) := Eq.trans (if_neg (own_nt hc2)) (Eq.trans (if_pos hc4) (if_pos hc7))
          exact ⟨congrArg (fun z => some (Value.int z)) rr.symm, N17, rfl⟩
      · have pre19 : ∀ t, Steps p.tables e below (s₁.setTop (mkF m 34 #[.val (.long x0), .second, .val (.long x1), .second, .val (.long x2), .second, .val (.long x3), .second, .val (.long x4), .second, .val (.long (f8_v5 x0 x1 x2 x3 x4)), .second] [(.int (own_cmp (f8_v5 x0 x1 x2 x3 x4) (0 : Int64)))])) t → Steps p.tables e below (s₁.setTop (entryFrame m #[(.long x0), (.long x1), (.long x2), (.long x3), (.long x4)] 12)) t := by
          intro t k
          refine pre6 _ ?_
          show Steps p.tables e below (s₁.setTop (mkF m 27 #[.val (.long x0), .second, .val (.long x1), .second, .val (.long x2), .second, .val (.long x3), .second, .val (.long x4), .second, .val (.long (f8_v5 x0 x1 x2 x3 x4)), .second] [(.int (own_cmp x0 (0 : Int64)))])) _
          refine XS.ifNo X0.here hx rfl (hb hby d8_27) rfl hc7 ?_
          show Steps p.tables e below (s₁.setTop (mkF m 30 #[.val (.long x0), .second, .val (.long x1), .second, .val (.long x2), .second, .val (.long x3), .second, .val (.long x4), .second, .val (.long (f8_v5 x0 x1 x2 x3 x4)), .second] [])) _
          refine XS.lload X0.here hx rfl (hb hby d8_30) rfl ?_
          show Steps p.tables e below (s₁.setTop (mkF m 32 #[.val (.long x0), .second, .val (.long x1), .second, .val (.long x2), .second, .val (.long x3), .second, .val (.long x4), .second, .val (.long (f8_v5 x0 x1 x2 x3 x4)), .second] [(.long (f8_v5 x0 x1 x2 x3 x4))])) _
          refine XS.lconst X0.here hx rfl (hb hby d8_32) ?_
          show Steps p.tables e below (s₁.setTop (mkF m 33 #[.val (.long x0), .second, .val (.long x1), .second, .val (.long x2), .second, .val (.long x3), .second, .val (.long x4), .second, .val (.long (f8_v5 x0 x1 x2 x3 x4)), .second] [(.long (0 : Int64)), (.long (f8_v5 x0 x1 x2 x3 x4))])) _
          refine XS.lcmp X0.here hx rfl (hb hby d8_33) rfl ?_
          exact k
        obtain ⟨T28, L28, X28, N28, e28, pre28⟩ : ∃ (T' : State) (L' : List Loc), Stand p l e ({ frames := 0, cells := 0, slots := 0, locals := 0 } : Room) s m #[(.long x0), (.long x1), (.long x2), (.long x3), (.long x4)] below meth c T' L' 0 0 ∧ Fr n0 L' ∧ T'.heap = h0 ∧ ∀ t, Steps p.tables e below (T'.setTop (mkF m 52 #[.val (.long x0), .second, .val (.long x1), .second, .val (.long x2), .second, .val (.long x3), .second, .val (.long x4), .second, .val (.long (f8_v5 x0 x1 x2 x3 x4)), .second] [(.int (f8_j27 x0 x1 x2 x3 x4))])) t → Steps p.tables e below (s₁.setTop (entryFrame m #[(.long x0), (.long x1), (.long x2), (.long x3), (.long x4)] 12)) t := by
          rcases Bool.eq_false_or_eq_true (ifCond.holds .lt (own_cmp (f8_v5 x0 x1 x2 x3 x4) (0 : Int64))) with hc20 | hc20
          · have pre29 : ∀ t, Steps p.tables e below (s₁.setTop (mkF m 52 #[.val (.long x0), .second, .val (.long x1), .second, .val (.long x2), .second, .val (.long x3), .second, .val (.long x4), .second, .val (.long (f8_v5 x0 x1 x2 x3 x4)), .second] [(.int (0 : Int32))])) t → Steps p.tables e below (s₁.setTop (entryFrame m #[(.long x0), (.long x1), (.long x2), (.long x3), (.long x4)] 12)) t := by
              intro t k
              refine pre19 _ ?_
              show Steps p.tables e below (s₁.setTop (mkF m 34 #[.val (.long x0), .second, .val (.long x1), .second, .val (.long x2), .second, .val (.long x3), .second, .val (.long x4), .second, .val (.long (f8_v5 x0 x1 x2 x3 x4)), .second] [(.int (own_cmp (f8_v5 x0 x1 x2 x3 x4) (0 : Int64)))])) _
              refine XS.ifYes X0.here hx rfl (pc0 := 34) (pc' := 51) rfl (hb hby d8_34) rfl hc20 (by decide) (by decide) ?_
              show Steps p.tables e below (s₁.setTop (mkF m 51 #[.val (.long x0), .second, .val (.long x1), .second, .val (.long x2), .second, .val (.long x3), .second, .val (.long x4), .second, .val (.long (f8_v5 x0 x1 x2 x3 x4)), .second] [])) _
              refine XS.iconst X0.here hx rfl (hb hby d8_51) ?_
              exact k
            have qj0 : (f8_j27 x0 x1 x2 x3 x4) = (0 : Int32) := if_pos hc20
            refine ⟨s₁, _, X0, N0, e0, fun t k => pre29 _ ?_⟩
            rw [qj0] at k
            exact k
          · have pre21 : ∀ t, Steps p.tables e below (s₁.setTop (mkF m 44 #[.val (.long x0), .second, .val (.long x1), .second, .val (.long x2), .second, .val (.long x3), .second, .val (.long x4), .second, .val (.long (f8_v5 x0 x1 x2 x3 x4)), .second] [(.int (own_cmp (f8_v5 x0 x1 x2 x3 x4) (x2 - (1 : Int64))))])) t → Steps p.tables e below (s₁.setTop (entryFrame m #[(.long x0), (.long x1), (.long x2), (.long x3), (.long x4)] 12)) t := by
              intro t k
              refine pre19 _ ?_
              show Steps p.tables e below (s₁.setTop (mkF m 34 #[.val (.long x0), .second, .val (.long x1), .second, .val (.long x2), .second, .val (.long x3), .second, .val (.long x4), .second, .val (.long (f8_v5 x0 x1 x2 x3 x4)), .second] [(.int (own_cmp (f8_v5 x0 x1 x2 x3 x4) (0 : Int64)))])) _
              refine XS.ifNo X0.here hx rfl (hb hby d8_34) rfl hc20 ?_
              show Steps p.tables e below (s₁.setTop (mkF m 37 #[.val (.long x0), .second, .val (.long x1), .second, .val (.long x2), .second, .val (.long x3), .second, .val (.long x4), .second, .val (.long (f8_v5 x0 x1 x2 x3 x4)), .second] [])) _
              refine XS.lload X0.here hx rfl (hb hby d8_37) rfl ?_
              show Steps p.tables e below (s₁.setTop (mkF m 39 #[.val (.long x0), .second, .val (.long x1), .second, .val (.long x2), .second, .val (.long x3), .second, .val (.long x4), .second, .val (.long (f8_v5 x0 x1 x2 x3 x4)), .second] [(.long (f8_v5 x0 x1 x2 x3 x4))])) _
              refine XS.lload X0.here hx rfl (hb hby d8_39) rfl ?_
              show Steps p.tables e below (s₁.setTop (mkF m 41 #[.val (.long x0), .second, .val (.long x1), .second, .val (.long x2), .second, .val (.long x3), .second, .val (.long x4), .second, .val (.long (f8_v5 x0 x1 x2 x3 x4)), .second] [(.long x2), (.long (f8_v5 x0 x1 x2 x3 x4))])) _
              refine XS.lconst X0.here hx rfl (hb hby d8_41) ?_
              show Steps p.tables e below (s₁.setTop (mkF m 42 #[.val (.long x0), .second, .val (.long x1), .second, .val (.long x2), .second, .val (.long x3), .second, .val (.long x4), .second, .val (.long (f8_v5 x0 x1 x2 x3 x4)), .second] [(.long (1 : Int64)), (.long x2), (.long (f8_v5 x0 x1 x2 x3 x4))])) _
              refine XS.lsub X0.here hx rfl (hb hby d8_42) rfl ?_
              show Steps p.tables e below (s₁.setTop (mkF m 43 #[.val (.long x0), .second, .val (.long x1), .second, .val (.long x2), .second, .val (.long x3), .second, .val (.long x4), .second, .val (.long (f8_v5 x0 x1 x2 x3 x4)), .second] [(.long (x2 - (1 : Int64))), (.long (f8_v5 x0 x1 x2 x3 x4))])) _
              refine XS.lcmp X0.here hx rfl (hb hby d8_43) rfl ?_
              exact k
            obtain ⟨T24, L24, X24, N24, e24, pre24⟩ : ∃ (T' : State) (L' : List Loc), Stand p l e ({ frames := 0, cells := 0, slots := 0, locals := 0 } : Room) s m #[(.long x0), (.long x1), (.long x2), (.long x3), (.long x4)] below meth c T' L' 0 0 ∧ Fr n0 L' ∧ T'.heap = h0 ∧ ∀ t, Steps p.tables e below (T'.setTop (mkF m 52 #[.val (.long x0), .second, .val (.long x1), .second, .val (.long x2), .second, .val (.long x3), .second, .val (.long x4), .second, .val (.long (f8_v5 x0 x1 x2 x3 x4)), .second] [(.int (f8_j23 x0 x1 x2 x3 x4))])) t → Steps p.tables e below (s₁.setTop (entryFrame m #[(.long x0), (.long x1), (.long x2), (.long x3), (.long x4)] 12)) t := by
              rcases Bool.eq_false_or_eq_true (ifCond.holds .gt (own_cmp (f8_v5 x0 x1 x2 x3 x4) (x2 - (1 : Int64)))) with hc22 | hc22
              · have pre25 : ∀ t, Steps p.tables e below (s₁.setTop (mkF m 52 #[.val (.long x0), .second, .val (.long x1), .second, .val (.long x2), .second, .val (.long x3), .second, .val (.long x4), .second, .val (.long (f8_v5 x0 x1 x2 x3 x4)), .second] [(.int (0 : Int32))])) t → Steps p.tables e below (s₁.setTop (entryFrame m #[(.long x0), (.long x1), (.long x2), (.long x3), (.long x4)] 12)) t := by
                  intro t k
                  refine pre21 _ ?_
                  show Steps p.tables e below (s₁.setTop (mkF m 44 #[.val (.long x0), .second, .val (.long x1), .second, .val (.long x2), .second, .val (.long x3), .second, .val (.long x4), .second, .val (.long (f8_v5 x0 x1 x2 x3 x4)), .second] [(.int (own_cmp (f8_v5 x0 x1 x2 x3 x4) (x2 - (1 : Int64))))])) _
                  refine XS.ifYes X0.here hx rfl (pc0 := 44) (pc' := 51) rfl (hb hby d8_44) rfl hc22 (by decide) (by decide) ?_
                  show Steps p.tables e below (s₁.setTop (mkF m 51 #[.val (.long x0), .second, .val (.long x1), .second, .val (.long x2), .second, .val (.long x3), .second, .val (.long x4), .second, .val (.long (f8_v5 x0 x1 x2 x3 x4)), .second] [])) _
                  refine XS.iconst X0.here hx rfl (hb hby d8_51) ?_
                  exact k
                have qj0 : (f8_j23 x0 x1 x2 x3 x4) = (0 : Int32) := if_pos hc22
                refine ⟨s₁, _, X0, N0, e0, fun t k => pre25 _ ?_⟩
                rw [qj0] at k
                exact k
              · have pre26 : ∀ t, Steps p.tables e below (s₁.setTop (mkF m 52 #[.val (.long x0), .second, .val (.long x1), .second, .val (.long x2), .second, .val (.long x3), .second, .val (.long x4), .second, .val (.long (f8_v5 x0 x1 x2 x3 x4)), .second] [(.int (1 : Int32))])) t → Steps p.tables e below (s₁.setTop (entryFrame m #[(.long x0), (.long x1), (.long x2), (.long x3), (.long x4)] 12)) t := by
                  intro t k
                  refine pre21 _ ?_
                  show Steps p.tables e below (s₁.setTop (mkF m 44 #[.val (.long x0), .second, .val (.long x1), .second, .val (.long x2), .second, .val (.long x3), .second, .val (.long x4), .second, .val (.long (f8_v5 x0 x1 x2 x3 x4)), .second] [(.int (own_cmp (f8_v5 x0 x1 x2 x3 x4) (x2 - (1 : Int64))))])) _
                  refine XS.ifNo X0.here hx rfl (hb hby d8_44) rfl hc22 ?_
                  show Steps p.tables e below (s₁.setTop (mkF m 47 #[.val (.long x0), .second, .val (.long x1), .second, .val (.long x2), .second, .val (.long x3), .second, .val (.long x4), .second, .val (.long (f8_v5 x0 x1 x2 x3 x4)), .second] [])) _
                  refine XS.iconst X0.here hx rfl (hb hby d8_47) ?_
                  show Steps p.tables e below (s₁.setTop (mkF m 48 #[.val (.long x0), .second, .val (.long x1), .second, .val (.long x2), .second, .val (.long x3), .second, .val (.long x4), .second, .val (.long (f8_v5 x0 x1 x2 x3 x4)), .second] [(.int (1 : Int32))])) _
                  refine XS.goto X0.here hx rfl (pc0 := 48) (pc' := 52) rfl (hb hby d8_48) (by decide) (by decide) ?_
                  exact k
                have qj0 : (f8_j23 x0 x1 x2 x3 x4) = (1 : Int32) := if_neg (own_nt hc22)
                refine ⟨s₁, _, X0, N0, e0, fun t k => pre26 _ ?_⟩
                rw [qj0] at k
                exact k
            have qj0 : (f8_j27 x0 x1 x2 x3 x4) = (f8_j23 x0 x1 x2 x3 x4) := if_neg (own_nt hc20)
            refine ⟨T24, _, X24, N24, e24, fun t k => pre24 _ ?_⟩
            rw [qj0] at k
            exact k
        obtain ⟨fs, hr, hrun, hended, hW, hsame⟩ := X28.leave (v := some (.int (nar .boolean (f8_j27 x0 x1 x2 x3 x4)))) (fun h => by rw [hret] at h; cases h)
        refine ⟨_, _, pre28 _ ?_, hrun, hended, _, _, rfl, ?_, ⟨_, rfl⟩, hW, hsame.mono (by decide) (by decide)⟩
        · show Steps p.tables e below (T28.setTop (mkF m 52 #[.val (.long x0), .second, .val (.long x1), .second, .val (.long x2), .second, .val (.long x3), .second, .val (.long x4), .second, .val (.long (f8_v5 x0 x1 x2 x3 x4)), .second] [(.int (f8_j27 x0 x1 x2 x3 x4))])) _
          exact retN X28 hx (t := .boolean) hret (by simp) (hb hby d8_52) hr
        · show Q8 Z x0 x1 x2 x3 x4 h0 n0 _ T28.heap _
          rw [e28]
          have rr : f8 x0 x1 x2 x3 x4 = (nar .boolean (f8_j27 x0 x1 x2 x3 x4)) := Eq.trans (if_neg (own_nt hc2)) (Eq.trans (if_pos hc4) (if_neg (own_nt hc7)))
          exact ⟨congrArg (fun z => some (Value.int z)) rr.symm, N28, rfl⟩
    · obtain ⟨fs, hr, hrun, hended, hW, hsame⟩ := X0.leave (v := some (.int (0 : Int32))) (fun h => by rw [hret] at h; cases h)
      refine ⟨_, _, pre3 _ ?_, hrun, hended, _, _, rfl, ?_, ⟨_, rfl⟩, hW, hsame.mono (by decide) (by decide)⟩
      · show Steps p.tables e below (s₁.setTop (mkF m 11 #[.val (.long x0), .second, .val (.long x1), .second, .val (.long x2), .second, .val (.long x3), .second, .val (.long x4), .second, .unset, .unset] [(.int (own_cmp x1 x4))])) _
        refine XS.ifNo X0.here hx rfl (hb hby d8_11) rfl hc4 ?_
        show Steps p.tables e below (s₁.setTop (mkF m 14 #[.val (.long x0), .second, .val (.long x1), .second, .val (.long x2), .second, .val (.long x3), .second, .val (.long x4), .second, .unset, .unset] [])) _
        refine XS.iconst X0.here hx rfl (hb hby d8_14) ?_
        show Steps p.tables e below (s₁.setTop (mkF m 15 #[.val (.long x0), .second, .val (.long x1), .second, .val (.long x2), .second, .val (.long x3), .second, .val (.long x4), .second, .unset, .unset] [(.int (0 : Int32))])) _
        exact retN X0 hx (t := .boolean) hret (by simp) (hb hby d8_15) hr
      · show Q8 Z x0 x1 x2 x3 x4 h0 n0 _ s₁.heap _
        rw [e0]
        have rr : f8 x0 x1 x2 x3 x4 = (0 : Int32) := Eq.trans (if_neg (own_nt hc2)) (if_neg (own_nt hc4))
        exact ⟨congrArg (fun z => some (Value.int z)) rr.symm, N0, rfl⟩
theorem pd_2 : parseMethodDescriptor "(J)Lcom/example/parley/parley/transport/WaitingOutput$Limits;" = some ⟨[.long], some (.object "com/example/parley/parley/transport/WaitingOutput$Limits")⟩ := by decide +kernel
theorem pd_3 : parseMethodDescriptor "()J" = some ⟨[], some .long⟩ := by decide +kernel
theorem pd_4 : parseMethodDescriptor "(JJJJJ)Z" = some ⟨[.long, .long, .long, .long, .long], some .boolean⟩ := by decide +kernel
-- body 0: com/example/parley/parley/transport/LimitsForHeapPinLaw.law:(J)Z
theorem ef_0 (m : MethodId) (x0 : Int64) : entryFrame m #[(.long x0)] maxLocals = mkF m 0 #[.val (.long x0), .second, .unset, .unset, .unset, .unset, .unset, .unset, .unset, .unset, .unset, .unset] [] := by first | (simp [entryFrame, mkF, argsToLocals, Value.category, maxLocals]; done) | rfl
def f0_v3 (x0 : Int64) : Int64 := (f5 (4194304 : Int64))
def f0_v5 (x0 : Int64) : Int64 := (f6 (x0 / (8 : Int64)))
def f0_v7 (x0 : Int64) : Int64 := (f7 (x0 / (4 : Int64)))
def f0_j10 (x0 : Int64) : Int32 := if ifCond.holds .ne (own_cmp (f0_v3 x0) (4194304 : Int64)) = true then (0 : Int32) else (1 : Int32)
def f0_v15 (x0 : Int64) : Int32 := (f8 x0 (f0_v5 x0) (8 : Int64) (-1152921504606846976 : Int64) (1152921504606846975 : Int64))
def f0_v17 (x0 : Int64) : Int32 := (f8 x0 (f0_v7 x0) (4 : Int64) (-2305843009213693952 : Int64) (2305843009213693951 : Int64))
def f0_j24 (x0 : Int64) : Int32 := if ifCond.holds .eq (f0_v17 x0) = true then (0 : Int32) else (1 : Int32)
def f0_j28 (x0 : Int64) : Int32 := if ifCond.holds .eq (f0_v15 x0) = true then (0 : Int32) else (f0_j24 x0)
def f0_j31 (x0 : Int64) : Int32 := if ifCond.holds .eq (f0_j10 x0) = true then (0 : Int32) else (f0_j28 x0)
def f0 (x0 : Int64) : Int32 := (nar .boolean (f0_j31 x0))
def Q0 (Z : State) (x0 : Int64) (h0 : Heap) (n0 : Nat) (v : Option Value) (h : Heap) (L : List Loc) : Prop := v = some (.int (f0 x0)) ∧ Fr n0 L
set_option maxRecDepth 65536 in
set_option maxHeartbeats 40000000 in
theorem rm0 (l : Launch) (Z : State) (a0 : Array Value) (hw : ∀ d ∈ tables_1, d.before a0 Z = true) (ws : List Jvm.Cond) (x0 : Int64) (h0 : Heap) (n0 : Nat) (Z0 : n0 ≤ h0.size) :
    MetFree l x (head1 (Jvm.Cond.code x code maxLocals ret :: ws) room_1) (fun a U => a = #[(.long x0)] ∧ Z.Warmed39 U.vm ∧ U.heap = h0) (fun _ _ _ _ _ => True) (fun _ U o U' => ∃ v L, o = .returned v ∧ Q0 Z x0 h0 n0 v U'.heap L ∧ FrameEnd U o U' L 1 3) := by
  refine MetFree.of_bodySF (plainFor_of_name pn_2) hisR ?_
  intro p e s m args below meth c s₁ Bd hml0 hP hK0
  obtain ⟨rfl, hZ, hh⟩ := hP
  have hx := Bd.exec
  have hby := Bd.bytes
  have hml : c.maxLocals = 12 := hml0
  have hown : s.vm.findClass "com/example/parley/parley/transport/LimitsForHeapPinLaw" = some m.cls := findClass_of_methodNamed Bd.named
  have hnm := (name_of_methodNamed Bd.named Bd.method).1
  have hret : meth.sig.returnType = ret := Bd.returns
  have hlk : meth.locks = false := Bd.notSynchronized
  have X0 : Stand p l e room_1 s m #[(.long x0)] below meth c s₁ [] 0 0 := Stand.of_body Bd
  have e0 : s₁.heap = h0 := by rw [← hh, Bd.state]; rfl
  have N0 := Fr.nil n0
  have pre0 : ∀ t, Steps p.tables e below (s₁.setTop (mkF m 0 #[.val (.long x0), .second, .unset, .unset, .unset, .unset, .unset, .unset, .unset, .unset, .unset, .unset] [])) t → Steps p.tables e below (s₁.setTop (entryFrame m #[(.long x0)] maxLocals)) t := fun t k => castTop (ef_0 m x0) k
  obtain ⟨_, _, ⟨T1, L1, k1, n1⟩, -, X1, ⟨Lc1, hQ1, l1, y1, z1⟩, st1⟩ := Jvm.LawKit.callS X0 hx (y := (⟨"com/example/parley/parley/transport/WaitingOutput$Limits", "forHeap", "(J)Lcom/example/parley/parley/transport/WaitingOutput$Limits;"⟩ : MethodName)) hown (mvT hZ (hw _ (List.mem_of_getElem? (i := 0) rfl))) (mvT hZ (hw _ (List.mem_of_getElem? (i := 1) rfl))) (mvT hZ (hw _ (List.mem_of_getElem? (i := 2) rfl))) (mvT hZ (hw _ (List.mem_of_getElem? (i := 3) rfl))) (by decide) (backOf (W := 0) (rm1 l Z a0 hw [] x0 h0 n0 Z0) hZ (hw _ (List.mem_of_getElem? (i := 3) rfl)) (hw _ (List.mem_of_getElem? (i := 2) rfl)) (by decide) (by decide)) (g := (mkF m 1 #[.val (.long x0), .second, .unset, .unset, .unset, .unset, .unset, .unset, .unset, .unset, .unset, .unset] [(.long x0)])) rfl (by rw [hml]; rfl) (argsL := [(.long x0)]) (rest := []) (lenOf pd_2 rfl) rfl (by show 2 * 0 + _ ≤ _; exact Nat.le_of_eq rfl) (hb hby at_1) (fun _ _ => ⟨rfl, e0, (by decide : 0 + 1 ≤ _), (by decide : 0 + 3 ≤ _)⟩)
  dsimp only [Pt.U, Pt.locs, Pt.cells, Pt.slots] at X1 l1 y1 z1 st1 hQ1
  subst l1 y1 z1
  obtain ⟨b1, rfl, Nq1, Kq1, sq1, G1_0, G1_1, G1_2, G1_3⟩ := hQ1
  obtain ⟨h1, e1⟩ : ∃ z, T1.heap = z := ⟨_, rfl⟩
  rw [e1] at Kq1 G1_0 G1_1 G1_2 G1_3
  have N1 := Fr.app N0 Nq1
  have g_b1 : n0 ≤ b1 := Nat.le_trans Z0 sq1
  have Z1 : n0 ≤ h1.size := Nat.le_trans Z0 Kq1.1
  obtain ⟨cq2, kq2, q2a, q2b, q2c⟩ := isOf hZ e1 G1_0
  obtain ⟨_, _, ⟨T2, L2, k2, n2⟩, -, X2, ⟨Lc2, hQ2, l2, y2, z2⟩, st2⟩ := X1.virtualBack hx (y := (⟨"com/example/parley/parley/transport/WaitingOutput$Limits", "perClient", "()J"⟩ : MethodName)) (z := (⟨"com/example/parley/parley/transport/WaitingOutput$Limits", "perClient", "()J"⟩ : MethodName)) hown (mvT hZ (hw _ (List.mem_of_getElem? (i := 26) rfl))) (mvT hZ (hw _ (List.mem_of_getElem? (i := 27) rfl))) (notFace_of_selects (args := #[]) (mvT hZ (hw _ (List.mem_of_getElem? (i := 29) rfl)))) (mvT hZ (hw _ (List.mem_of_getElem? (i := 29) rfl))) (mvT hZ (hw _ (List.mem_of_getElem? (i := 28) rfl))) (by decide) (backOf (W := 0) (rm5 l Z a0 hw [] b1 (4194304 : Int64) h1 n0 Z1 G1_1) hZ (hw _ (List.mem_of_getElem? (i := 30) rfl)) (hw _ (List.mem_of_getElem? (i := 2) rfl)) (by decide) (by decide)) q2a q2c (g := (mkF m 6 #[.val (.long x0), .second, .val (.ref b1), .unset, .unset, .unset, .unset, .unset, .unset, .unset, .unset, .unset] [(.ref b1)])) rfl (by rw [hml]; rfl) (Steps.refl _) (argsL := []) (rest := []) (lenOf pd_3 rfl) rfl (by show 2 * 0 + _ ≤ _; exact Nat.le_of_eq rfl) (hb hby at_6) (fun _ _ => ⟨rfl, e1, (by decide : 1 + 0 ≤ _), (by decide : 3 + 0 ≤ _)⟩)
  dsimp only [Pt.U, Pt.locs, Pt.cells, Pt.slots] at X2 l2 y2 z2 st2 hQ2
  subst l2 y2 z2
  obtain ⟨rfl, Nq2, e2⟩ := hQ2
  have N2 := Fr.app N1 Nq2
  obtain ⟨cq4, kq4, q4a, q4b, q4c⟩ := isOf hZ e2 G1_0
  obtain ⟨_, _, ⟨T4, L4, k4, n4⟩, -, X4, ⟨Lc4, hQ4, l4, y4, z4⟩, st4⟩ := X2.virtualBack hx (y := (⟨"com/example/parley/parley/transport/WaitingOutput$Limits", "perAddress", "()J"⟩ : MethodName)) (z := (⟨"com/example/parley/parley/transport/WaitingOutput$Limits", "perAddress", "()J"⟩ : MethodName)) hown (mvT hZ (hw _ (List.mem_of_getElem? (i := 31) rfl))) (mvT hZ (hw _ (List.mem_of_getElem? (i := 32) rfl))) (notFace_of_selects (args := #[]) (mvT hZ (hw _ (List.mem_of_getElem? (i := 34) rfl)))) (mvT hZ (hw _ (List.mem_of_getElem? (i := 34) rfl))) (mvT hZ (hw _ (List.mem_of_getElem? (i := 33) rfl))) (by decide) (backOf (W := 0) (rm6 l Z a0 hw [] b1 (x0 / (8 : Int64)) h1 n0 Z1 G1_2) hZ (hw _ (List.mem_of_getElem? (i := 35) rfl)) (hw _ (List.mem_of_getElem? (i := 2) rfl)) (by decide) (by decide)) q4a q4c (g := (mkF m 11 #[.val (.long x0), .second, .val (.ref b1), .val (.long (f0_v3 x0)), .second, .unset, .unset, .unset, .unset, .unset, .unset, .unset] [(.ref b1)])) rfl (by rw [hml]; rfl) (Steps.refl _) (argsL := []) (rest := []) (lenOf pd_3 rfl) rfl (by show 2 * 0 + _ ≤ _; exact Nat.le_of_eq rfl) (hb hby at_11) (fun _ _ => ⟨rfl, e2, (by decide : 1 + 0 ≤ _), (by decide : 3 + 0 ≤ _)⟩)
  dsimp only [Pt.U, Pt.locs, Pt.cells, Pt.slots] at X4 l4 y4 z4 st4 hQ4
  subst l4 y4 z4
  obtain ⟨rfl, Nq4, e4⟩ := hQ4
  have N4 := Fr.app N2 Nq4
  obtain ⟨cq6, kq6, q6a, q6b, q6c⟩ := isOf hZ e4 G1_0
  obtain ⟨_, _, ⟨T6, L6, k6, n6⟩, -, X6, ⟨Lc6, hQ6, l6, y6, z6⟩, st6⟩ := X4.virtualBack hx (y := (⟨"com/example/parley/parley/transport/WaitingOutput$Limits", "total", "()J"⟩ : MethodName)) (z := (⟨"com/example/parley/parley/transport/WaitingOutput$Limits", "total", "()J"⟩ : MethodName)) hown (mvT hZ (hw _ (List.mem_of_getElem? (i := 36) rfl))) (mvT hZ (hw _ (List.mem_of_getElem? (i := 37) rfl))) (notFace_of_selects (args := #[]) (mvT hZ (hw _ (List.mem_of_getElem? (i := 39) rfl)))) (mvT hZ (hw _ (List.mem_of_getElem? (i := 39) rfl))) (mvT hZ (hw _ (List.mem_of_getElem? (i := 38) rfl))) (by decide) (backOf (W := 0) (rm7 l Z a0 hw [] b1 (x0 / (4 : Int64)) h1 n0 Z1 G1_3) hZ (hw _ (List.mem_of_getElem? (i := 40) rfl)) (hw _ (List.mem_of_getElem? (i := 2) rfl)) (by decide) (by decide)) q6a q6c (g := (mkF m 17 #[.val (.long x0), .second, .val (.ref b1), .val (.long (f0_v3 x0)), .second, .val (.long (f0_v5 x0)), .second, .unset, .unset, .unset, .unset, .unset] [(.ref b1)])) rfl (by rw [hml]; rfl) (Steps.refl _) (argsL := []) (rest := []) (lenOf pd_3 rfl) rfl (by show 2 * 0 + _ ≤ _; exact Nat.le_of_eq rfl) (hb hby at_17) (fun _ _ => ⟨rfl, e4, (by decide : 1 + 0 ≤ _), (by decide : 3 + 0 ≤ _)⟩)
  dsimp only [Pt.U, Pt.locs, Pt.cells, Pt.slots] at X6 l6 y6 z6 st6 hQ6
  subst l6 y6 z6
  obtain ⟨rfl, Nq6, e6⟩ := hQ6
  have N6 := Fr.app N4 Nq6
  have pre8 : ∀ t, Steps p.tables e below (T6.setTop (mkF m 27 #[.val (.long x0), .second, .val (.ref b1), .val (.long (f0_v3 x0)), .second, .val (.long (f0_v5 x0)), .second, .val (.long (f0_v7 x0)), .second, .unset, .unset, .unset] [(.int (own_cmp (f0_v3 x0) (4194304 : Int64)))])) t → Steps p.tables e below (s₁.setTop (entryFrame m #[(.long x0)] maxLocals)) t := by
    intro t k
    refine pre0 _ ?_
    show Steps p.tables e below (s₁.setTop (mkF m 0 #[.val (.long x0), .second, .unset, .unset, .unset, .unset, .unset, .unset, .unset, .unset, .unset, .unset] [])) _
    refine XS.lloadN X0.here hx rfl (hb hby at_0) rfl ?_
    show Steps p.tables e below (s₁.setTop (mkF m 1 #[.val (.long x0), .second, .unset, .unset, .unset, .unset, .unset, .unset, .unset, .unset, .unset, .unset] [(.long x0)])) _
    refine st1 _ ?_
    show Steps p.tables e below (T1.setTop (mkF m 4 #[.val (.long x0), .second, .unset, .unset, .unset, .unset, .unset, .unset, .unset, .unset, .unset, .unset] [(.ref b1)])) _
    refine XS.astoreN X1.here hx rfl (hb hby at_4) rfl rfl (l' := #[.val (.long x0), .second, .val (.ref b1), .unset, .unset, .unset, .unset, .unset, .unset, .unset, .unset, .unset]) rfl ?_
    show Steps p.tables e below (T1.setTop (mkF m 5 #[.val (.long x0), .second, .val (.ref b1), .unset, .unset, .unset, .unset, .unset, .unset, .unset, .unset, .unset] [])) _
    refine XS.aloadN X1.here hx rfl (hb hby at_5) rfl rfl ?_
    show Steps p.tables e below (T1.setTop (mkF m 6 #[.val (.long x0), .second, .val (.ref b1), .unset, .unset, .unset, .unset, .unset, .unset, .unset, .unset, .unset] [(.ref b1)])) _
    refine st2.trans ?_
    show Steps p.tables e below (T2.setTop (mkF m 9 #[.val (.long x0), .second, .val (.ref b1), .unset, .unset, .unset, .unset, .unset, .unset, .unset, .unset, .unset] [(.long (f5 (4194304 : Int64)))])) _
    refine XS.lstoreN X2.here hx rfl (hb hby at_9) rfl (l' := #[.val (.long x0), .second, .val (.ref b1), .val (.long (f0_v3 x0)), .second, .unset, .unset, .unset, .unset, .unset, .unset, .unset]) rfl ?_
    show Steps p.tables e below (T2.setTop (mkF m 10 #[.val (.long x0), .second, .val (.ref b1), .val (.long (f0_v3 x0)), .second, .unset, .unset, .unset, .unset, .unset, .unset, .unset] [])) _
    refine XS.aloadN X2.here hx rfl (hb hby at_10) rfl rfl ?_
    show Steps p.tables e below (T2.setTop (mkF m 11 #[.val (.long x0), .second, .val (.ref b1), .val (.long (f0_v3 x0)), .second, .unset, .unset, .unset, .unset, .unset, .unset, .unset] [(.ref b1)])) _
    refine st4.trans ?_
    show Steps p.tables e below (T4.setTop (mkF m 14 #[.val (.long x0), .second, .val (.ref b1), .val (.long (f0_v3 x0)), .second, .unset, .unset, .unset, .unset, .unset, .unset, .unset] [(.long (f6 (x0 / (8 : Int64))))])) _
    refine XS.lstore X4.here hx rfl (hb hby at_14) rfl (l' := #[.val (.long x0), .second, .val (.ref b1), .val (.long (f0_v3 x0)), .second, .val (.long (f0_v5 x0)), .second, .unset, .unset, .unset, .unset, .unset]) rfl ?_
    show Steps p.tables e below (T4.setTop (mkF m 16 #[.val (.long x0), .second, .val (.ref b1), .val (.long (f0_v3 x0)), .second, .val (.long (f0_v5 x0)), .second, .unset, .unset, .unset, .unset, .unset] [])) _
    refine XS.aloadN X4.here hx rfl (hb hby at_16) rfl rfl ?_
    show Steps p.tables e below (T4.setTop (mkF m 17 #[.val (.long x0), .second, .val (.ref b1), .val (.long (f0_v3 x0)), .second, .val (.long (f0_v5 x0)), .second, .unset, .unset, .unset, .unset, .unset] [(.ref b1)])) _
    refine st6.trans ?_
    show Steps p.tables e below (T6.setTop (mkF m 20 #[.val (.long x0), .second, .val (.ref b1), .val (.long (f0_v3 x0)), .second, .val (.long (f0_v5 x0)), .second, .unset, .unset, .unset, .unset, .unset] [(.long (f7 (x0 / (4 : Int64))))])) _
    refine XS.lstore X6.here hx rfl (hb hby at_20) rfl (l' := #[.val (.long x0), .second, .val (.ref b1), .val (.long (f0_v3 x0)), .second, .val (.long (f0_v5 x0)), .second, .val (.long (f0_v7 x0)), .second, .unset, .unset, .unset]) rfl ?_
    show Steps p.tables e below (T6.setTop (mkF m 22 #[.val (.long x0), .second, .val (.ref b1), .val (.long (f0_v3 x0)), .second, .val (.long (f0_v5 x0)), .second, .val (.long (f0_v7 x0)), .second, .unset, .unset, .unset] [])) _
    refine XS.lloadN X6.here hx rfl (hb hby at_22) rfl ?_
    show Steps p.tables e below (T6.setTop (mkF m 23 #[.val (.long x0), .second, .val (.ref b1), .val (.long (f0_v3 x0)), .second, .val (.long (f0_v5 x0)), .second, .val (.long (f0_v7 x0)), .second, .unset, .unset, .unset] [(.long (f0_v3 x0))])) _
    refine X6.ldc2Long hx hown (mvT hZ (hw _ (List.mem_of_getElem? (i := 41) rfl))) (g := (mkF m 23 #[.val (.long x0), .second, .val (.ref b1), .val (.long (f0_v3 x0)), .second, .val (.long (f0_v5 x0)), .second, .val (.long (f0_v7 x0)), .second, .unset, .unset, .unset] [(.long (f0_v3 x0))])) rfl (hb hby at_23) _ ?_
    show Steps p.tables e below (T6.setTop (mkF m 26 #[.val (.long x0), .second, .val (.ref b1), .val (.long (f0_v3 x0)), .second, .val (.long (f0_v5 x0)), .second, .val (.long (f0_v7 x0)), .second, .unset, .unset, .unset] [(.long (4194304 : Int64)), (.long (f0_v3 x0))])) _
    refine XS.lcmp X6.here hx rfl (hb hby at_26) rfl ?_
    exact k
  obtain ⟨T11, L11, X11, N11, e11, pre11⟩ : ∃ (T' : State) (L' : List Loc), Stand p l e room_1 s m #[(.long x0)] below meth c T' L' 1 3 ∧ Fr n0 L' ∧ T'.heap = h1 ∧ ∀ t, Steps p.tables e below (T'.setTop (mkF m 35 #[.val (.long x0), .second, .val (.ref b1), .val (.long (f0_v3 x0)), .second, .val (.long (f0_v5 x0)), .second, .val (.long (f0_v7 x0)), .second, .unset, .unset, .unset] [(.int (f0_j10 x0))])) t → Steps p.tables e below (s₁.setTop (entryFrame m #[(.long x0)] maxLocals)) t := by
    rcases Bool.eq_false_or_eq_true (ifCond.holds .ne (own_cmp (f0_v3 x0) (4194304 : Int64))) with hc9 | hc9
    · have pre12 : ∀ t, Steps p.tables e below (T6.setTop (mkF m 35 #[.val (.long x0), .second, .val (.ref b1), .val (.long (f0_v3 x0)), .second, .val (.long (f0_v5 x0)), .second, .val (.long (f0_v7 x0)), .second, .unset, .unset, .unset] [(.int (0 : Int32))])) t → Steps p.tables e below (s₁.setTop (entryFrame m #[(.long x0)] maxLocals)) t := by
        intro t k
        refine pre8 _ ?_
        show Steps p.tables e below (T6.setTop (mkF m 27 #[.val (.long x0), .second, .val (.ref b1), .val (.long (f0_v3 x0)), .second, .val (.long (f0_v5 x0)), .second, .val (.long (f0_v7 x0)), .second, .unset, .unset, .unset] [(.int (own_cmp (f0_v3 x0) (4194304 : Int64)))])) _
        refine XS.ifYes X6.here hx rfl (pc0 := 27) (pc' := 34) rfl (hb hby at_27) rfl hc9 (by decide) (by decide) ?_
        show Steps p.tables e below (T6.setTop (mkF m 34 #[.val (.long x0), .second, .val (.ref b1), .val (.long (f0_v3 x0)), .second, .val (.long (f0_v5 x0)), .second, .val (.long (f0_v7 x0)), .second, .unset, .unset, .unset] [])) _
        refine XS.iconst X6.here hx rfl (hb hby at_34) ?_
        exact k
      have qj0 : (f0_j10 x0) = (0 : Int32) := if_pos hc9
      refine ⟨T6, _, X6, N6, e6, fun t k => pre12 _ ?_⟩
      rw [qj0] at k
      exact k
    · have pre13 : ∀ t, Steps p.tables e below (T6.setTop (mkF m 35 #[.val (.long x0), .second, .val (.ref b1), .val (.long (f0_v3 x0)), .second, .val (.long (f0_v5 x0)), .second, .val (.long (f0_v7 x0)), .second, .unset, .unset, .unset] [(.int (1 : Int32))])) t → Steps p.tables e below (s₁.setTop (entryFrame m #[(.long x0)] maxLocals)) t := by
        intro t k
        refine pre8 _ ?_
        show Steps p.tables e below (T6.setTop (mkF m 27 #[.val (.long x0), .second, .val (.ref b1), .val (.long (f0_v3 x0)), .second, .val (.long (f0_v5 x0)), .second, .val (.long (f0_v7 x0)), .second, .unset, .unset, .unset] [(.int (own_cmp (f0_v3 x0) (4194304 : Int64)))])) _
        refine XS.ifNo X6.here hx rfl (hb hby at_27) rfl hc9 ?_
        show Steps p.tables e below (T6.setTop (mkF m 30 #[.val (.long x0), .second, .val (.ref b1), .val (.long (f0_v3 x0)), .second, .val (.long (f0_v5 x0)), .second, .val (.long (f0_v7 x0)), .second, .unset, .unset, .unset] [])) _
        refine XS.iconst X6.here hx rfl (hb hby at_30) ?_
        show Steps p.tables e below (T6.setTop (mkF m 31 #[.val (.long x0), .second, .val (.ref b1), .val (.long (f0_v3 x0)), .second, .val (.long (f0_v5 x0)), .second, .val (.long (f0_v7 x0)), .second, .unset, .unset, .unset] [(.int (1 : Int32))])) _
        refine XS.goto X6.here hx rfl (pc0 := 31) (pc' := 35) rfl (hb hby at_31) (by decide) (by decide) ?_
        exact k
      have qj0 : (f0_j10 x0) = (1 : Int32) := if_neg (own_nt hc9)
      refine ⟨T6, _, X6, N6, e6, fun t k => pre13 _ ?_⟩
      rw [qj0] at k
      exact k
  obtain ⟨_, _, ⟨T14, L14, k14, n14⟩, -, X14, ⟨Lc14, hQ14, l14, y14, z14⟩, st14⟩ := Jvm.LawKit.callS X11 hx (y := (⟨"com/example/parley/parley/transport/LimitsForHeapPinLaw", "truncQuotient", "(JJJJJ)Z"⟩ : MethodName)) hown (mvT hZ (hw _ (List.mem_of_getElem? (i := 45) rfl))) (mvT hZ (hw _ (List.mem_of_getElem? (i := 46) rfl))) (mvT hZ (hw _ (List.mem_of_getElem? (i := 47) rfl))) (mvT hZ (hw _ (List.mem_of_getElem? (i := 48) rfl))) (by decide) (backOf (W := 0) (rm8 l Z a0 hw [] x0 (f0_v5 x0) (8 : Int64) (-1152921504606846976 : Int64) (1152921504606846975 : Int64) h1 n0 Z1) hZ (hw _ (List.mem_of_getElem? (i := 48) rfl)) (hw _ (List.mem_of_getElem? (i := 47) rfl)) (by decide) (by decide)) (g := (mkF m 49 #[.val (.long x0), .second, .val (.ref b1), .val (.long (f0_v3 x0)), .second, .val (.long (f0_v5 x0)), .second, .val (.long (f0_v7 x0)), .second, .val (.int (f0_j10 x0)), .unset, .unset] [(.long (1152921504606846975 : Int64)), (.long (-1152921504606846976 : Int64)), (.long (8 : Int64)), (.long (f0_v5 x0)), (.long x0)])) rfl (by rw [hml]; rfl) (argsL := [(.long x0), (.long (f0_v5 x0)), (.long (8 : Int64)), (.long (-1152921504606846976 : Int64)), (.long (1152921504606846975 : Int64))]) (rest := []) (lenOf pd_4 rfl) rfl (by show 2 * 0 + _ ≤ _; exact Nat.le_of_eq rfl) (hb hby at_49) (fun _ _ => ⟨rfl, e11, (by decide : 1 + 0 ≤ _), (by decide : 3 + 0 ≤ _)⟩)
  dsimp only [Pt.U, Pt.locs, Pt.cells, Pt.slots] at X14 l14 y14 z14 st14 hQ14
  subst l14 y14 z14
  obtain ⟨rfl, Nq14, e14⟩ := hQ14
  have N14 := Fr.app N11 Nq14
  obtain ⟨_, _, ⟨T16, L16, k16, n16⟩, -, X16, ⟨Lc16, hQ16, l16, y16, z16⟩, st16⟩ := Jvm.LawKit.callS X14 hx (y := (⟨"com/example/parley/parley/transport/LimitsForHeapPinLaw", "truncQuotient", "(JJJJJ)Z"⟩ : MethodName)) hown (mvT hZ (hw _ (List.mem_of_getElem? (i := 45) rfl))) (mvT hZ (hw _ (List.mem_of_getElem? (i := 46) rfl))) (mvT hZ (hw _ (List.mem_of_getElem? (i := 47) rfl))) (mvT hZ (hw _ (List.mem_of_getElem? (i := 48) rfl))) (by decide) (backOf (W := 0) (rm8 l Z a0 hw [] x0 (f0_v7 x0) (4 : Int64) (-2305843009213693952 : Int64) (2305843009213693951 : Int64) h1 n0 Z1) hZ (hw _ (List.mem_of_getElem? (i := 48) rfl)) (hw _ (List.mem_of_getElem? (i := 47) rfl)) (by decide) (by decide)) (g := (mkF m 66 #[.val (.long x0), .second, .val (.ref b1), .val (.long (f0_v3 x0)), .second, .val (.long (f0_v5 x0)), .second, .val (.long (f0_v7 x0)), .second, .val (.int (f0_j10 x0)), .val (.int (f0_v15 x0)), .unset] [(.long (2305843009213693951 : Int64)), (.long (-2305843009213693952 : Int64)), (.long (4 : Int64)), (.long (f0_v7 x0)), (.long x0)])) rfl (by rw [hml]; rfl) (argsL := [(.long x0), (.long (f0_v7 x0)), (.long (4 : Int64)), (.long (-2305843009213693952 : Int64)), (.long (2305843009213693951 : Int64))]) (rest := []) (lenOf pd_4 rfl) rfl (by show 2 * 0 + _ ≤ _; exact Nat.le_of_eq rfl) (hb hby at_66) (fun _ _ => ⟨rfl, e14, (by decide : 1 + 0 ≤ _), (by decide : 3 + 0 ≤ _)⟩)
  dsimp only [Pt.U, Pt.locs, Pt.cells, Pt.slots] at X16 l16 y16 z16 st16 hQ16
  subst l16 y16 z16
  obtain ⟨rfl, Nq16, e16⟩ := hQ16
  have N16 := Fr.app N14 Nq16
  have pre18 : ∀ t, Steps p.tables e below (T16.setTop (mkF m 73 #[.val (.long x0), .second, .val (.ref b1), .val (.long (f0_v3 x0)), .second, .val (.long (f0_v5 x0)), .second, .val (.long (f0_v7 x0)), .second, .val (.int (f0_j10 x0)), .val (.int (f0_v15 x0)), .val (.int (f0_v17 x0))] [(.int (f0_j10 x0))])) t → Steps p.tables e below (s₁.setTop (entryFrame m #[(.long x0)] maxLocals)) t := by
    intro t k
    refine pre11 _ ?_
    show Steps p.tables e below (T11.setTop (mkF m 35 #[.val (.long x0), .second, .val (.ref b1), .val (.long (f0_v3 x0)), .second, .val (.long (f0_v5 x0)), .second, .val (.long (f0_v7 x0)), .second, .unset, .unset, .unset] [(.int (f0_j10 x0))])) _
    refine XS.istore X11.here hx rfl (hb hby at_35) rfl (l' := #[.val (.long x0), .second, .val (.ref b1), .val (.long (f0_v3 x0)), .second, .val (.long (f0_v5 x0)), .second, .val (.long (f0_v7 x0)), .second, .val (.int (f0_j10 x0)), .unset, .unset]) rfl ?_
    show Steps p.tables e below (T11.setTop (mkF m 37 #[.val (.long x0), .second, .val (.ref b1), .val (.long (f0_v3 x0)), .second, .val (.long (f0_v5 x0)), .second, .val (.long (f0_v7 x0)), .second, .val (.int (f0_j10 x0)), .unset, .unset] [])) _
    refine XS.lloadN X11.here hx rfl (hb hby at_37) rfl ?_
    show Steps p.tables e below (T11.setTop (mkF m 38 #[.val (.long x0), .second, .val (.ref b1), .val (.long (f0_v3 x0)), .second, .val (.long (f0_v5 x0)), .second, .val (.long (f0_v7 x0)), .second, .val (.int (f0_j10 x0)), .unset, .unset] [(.long x0)])) _
    refine XS.lload X11.here hx rfl (hb hby at_38) rfl ?_
    show Steps p.tables e below (T11.setTop (mkF m 40 #[.val (.long x0), .second, .val (.ref b1), .val (.long (f0_v3 x0)), .second, .val (.long (f0_v5 x0)), .second, .val (.long (f0_v7 x0)), .second, .val (.int (f0_j10 x0)), .unset, .unset] [(.long (f0_v5 x0)), (.long x0)])) _
    refine X11.ldc2Long hx hown (mvT hZ (hw _ (List.mem_of_getElem? (i := 42) rfl))) (g := (mkF m 40 #[.val (.long x0), .second, .val (.ref b1), .val (.long (f0_v3 x0)), .second, .val (.long (f0_v5 x0)), .second, .val (.long (f0_v7 x0)), .second, .val (.int (f0_j10 x0)), .unset, .unset] [(.long (f0_v5 x0)), (.long x0)])) rfl (hb hby at_40) _ ?_
    show Steps p.tables e below (T11.setTop (mkF m 43 #[.val (.long x0), .second, .val (.ref b1), .val (.long (f0_v3 x0)), .second, .val (.long (f0_v5 x0)), .second, .val (.long (f0_v7 x0)), .second, .val (.int (f0_j10 x0)), .unset, .unset] [(.long (8 : Int64)), (.long (f0_v5 x0)), (.long x0)])) _
    refine X11.ldc2Long hx hown (mvT hZ (hw _ (List.mem_of_getElem? (i := 43) rfl))) (g := (mkF m 43 #[.val (.long x0), .second, .val (.ref b1), .val (.long (f0_v3 x0)), .second, .val (.long (f0_v5 x0)), .second, .val (.long (f0_v7 x0)), .second, .val (.int (f0_j10 x0)), .unset, .unset] [(.long (8 : Int64)), (.long (f0_v5 x0)), (.long x0)])) rfl (hb hby at_43) _ ?_
    show Steps p.tables e below (T11.setTop (mkF m 46 #[.val (.long x0), .second, .val (.ref b1), .val (.long (f0_v3 x0)), .second, .val (.long (f0_v5 x0)), .second, .val (.long (f0_v7 x0)), .second, .val (.int (f0_j10 x0)), .unset, .unset] [(.long (-1152921504606846976 : Int64)), (.long (8 : Int64)), (.long (f0_v5 x0)), (.long x0)])) _
    refine X11.ldc2Long hx hown (mvT hZ (hw _ (List.mem_of_getElem? (i := 44) rfl))) (g := (mkF m 46 #[.val (.long x0), .second, .val (.ref b1), .val (.long (f0_v3 x0)), .second, .val (.long (f0_v5 x0)), .second, .val (.long (f0_v7 x0)), .second, .val (.int (f0_j10 x0)), .unset, .unset] [(.long (-1152921504606846976 : Int64)), (.long (8 : Int64)), (.long (f0_v5 x0)), (.long x0)])) rfl (hb hby at_46) _ ?_
    show Steps p.tables e below (T11.setTop (mkF m 49 #[.val (.long x0), .second, .val (.ref b1), .val (.long (f0_v3 x0)), .second, .val (.long (f0_v5 x0)), .second, .val (.long (f0_v7 x0)), .second, .val (.int (f0_j10 x0)), .unset, .unset] [(.long (1152921504606846975 : Int64)), (.long (-1152921504606846976 : Int64)), (.long (8 : Int64)), (.long (f0_v5 x0)), (.long x0)])) _
    refine st14 _ ?_
    show Steps p.tables e below (T14.setTop (mkF m 52 #[.val (.long x0), .second, .val (.ref b1), .val (.long (f0_v3 x0)), .second, .val (.long (f0_v5 x0)), .second, .val (.long (f0_v7 x0)), .second, .val (.int (f0_j10 x0)), .unset, .unset] [(.int (f8 x0 (f0_v5 x0) (8 : Int64) (-1152921504606846976 : Int64) (1152921504606846975 : Int64)))])) _
    refine XS.istore X14.here hx rfl (hb hby at_52) rfl (l' := #[.val (.long x0), .second, .val (.ref b1), .val (.long (f0_v3 x0)), .second, .val (.long (f0_v5 x0)), .second, .val (.long (f0_v7 x0)), .second, .val (.int (f0_j10 x0)), .val (.int (f0_v15 x0)), .unset]) rfl ?_
    show Steps p.tables e below (T14.setTop (mkF m 54 #[.val (.long x0), .second, .val (.ref b1), .val (.long (f0_v3 x0)), .second, .val (.long (f0_v5 x0)), .second, .val (.long (f0_v7 x0)), .second, .val (.int (f0_j10 x0)), .val (.int (f0_v15 x0)), .unset] [])) _
    refine XS.lloadN X14.here hx rfl (hb hby at_54) rfl ?_
    show Steps p.tables e below (T14.setTop (mkF m 55 #[.val (.long x0), .second, .val (.ref b1), .val (.long (f0_v3 x0)), .second, .val (.long (f0_v5 x0)), .second, .val (.long (f0_v7 x0)), .second, .val (.int (f0_j10 x0)), .val (.int (f0_v15 x0)), .unset] [(.long x0)])) _
    refine XS.lload X14.here hx rfl (hb hby at_55) rfl ?_
    show Steps p.tables e below (T14.setTop (mkF m 57 #[.val (.long x0), .second, .val (.ref b1), .val (.long (f0_v3 x0)), .second, .val (.long (f0_v5 x0)), .second, .val (.long (f0_v7 x0)), .second, .val (.int (f0_j10 x0)), .val (.int (f0_v15 x0)), .unset] [(.long (f0_v7 x0)), (.long x0)])) _
    refine X14.ldc2Long hx hown (mvT hZ (hw _ (List.mem_of_getElem? (i := 49) rfl))) (g := (mkF m 57 #[.val (.long x0), .second, .val (.ref b1), .val (.long (f0_v3 x0)), .second, .val (.long (f0_v5 x0)), .second, .val (.long (f0_v7 x0)), .second, .val (.int (f0_j10 x0)), .val (.int (f0_v15 x0)), .unset] [(.long (f0_v7 x0)), (.long x0)])) rfl (hb hby at_57) _ ?_
    show Steps p.tables e below (T14.setTop (mkF m 60 #[.val (.long x0), .second, .val (.ref b1), .val (.long (f0_v3 x0)), .second, .val (.long (f0_v5 x0)), .second, .val (.long (f0_v7 x0)), .second, .val (.int (f0_j10 x0)), .val (.int (f0_v15 x0)), .unset] [(.long (4 : Int64)), (.long (f0_v7 x0)), (.long x0)])) _
    refine X14.ldc2Long hx hown (mvT hZ (hw _ (List.mem_of_getElem? (i := 50) rfl))) (g := (mkF m 60 #[.val (.long x0), .second, .val (.ref b1), .val (.long (f0_v3 x0)), .second, .val (.long (f0_v5 x0)), .second, .val (.long (f0_v7 x0)), .second, .val (.int (f0_j10 x0)), .val (.int (f0_v15 x0)), .unset] [(.long (4 : Int64)), (.long (f0_v7 x0)), (.long x0)])) rfl (hb hby at_60) _ ?_
    show Steps p.tables e below (T14.setTop (mkF m 63 #[.val (.long x0), .second, .val (.ref b1), .val (.long (f0_v3 x0)), .second, .val (.long (f0_v5 x0)), .second, .val (.long (f0_v7 x0)), .second, .val (.int (f0_j10 x0)), .val (.int (f0_v15 x0)), .unset] [(.long (-2305843009213693952 : Int64)), (.long (4 : Int64)), (.long (f0_v7 x0)), (.long x0)])) _
    refine X14.ldc2Long hx hown (mvT hZ (hw _ (List.mem_of_getElem? (i := 51) rfl))) (g := (mkF m 63 #[.val (.long x0), .second, .val (.ref b1), .val (.long (f0_v3 x0)), .second, .val (.long (f0_v5 x0)), .second, .val (.long (f0_v7 x0)), .second, .val (.int (f0_j10 x0)), .val (.int (f0_v15 x0)), .unset] [(.long (-2305843009213693952 : Int64)), (.long (4 : Int64)), (.long (f0_v7 x0)), (.long x0)])) rfl (hb hby at_63) _ ?_
    show Steps p.tables e below (T14.setTop (mkF m 66 #[.val (.long x0), .second, .val (.ref b1), .val (.long (f0_v3 x0)), .second, .val (.long (f0_v5 x0)), .second, .val (.long (f0_v7 x0)), .second, .val (.int (f0_j10 x0)), .val (.int (f0_v15 x0)), .unset] [(.long (2305843009213693951 : Int64)), (.long (-2305843009213693952 : Int64)), (.long (4 : Int64)), (.long (f0_v7 x0)), (.long x0)])) _
    refine st16 _ ?_
    show Steps p.tables e below (T16.setTop (mkF m 69 #[.val (.long x0), .second, .val (.ref b1), .val (.long (f0_v3 x0)), .second, .val (.long (f0_v5 x0)), .second, .val (.long (f0_v7 x0)), .second, .val (.int (f0_j10 x0)), .val (.int (f0_v15 x0)), .unset] [(.int (f8 x0 (f0_v7 x0) (4 : Int64) (-2305843009213693952 : Int64) (2305843009213693951 : Int64)))])) _
    refine XS.istore X16.here hx rfl (hb hby at_69) rfl (l' := #[.val (.long x0), .second, .val (.ref b1), .val (.long (f0_v3 x0)), .second, .val (.long (f0_v5 x0)), .second, .val (.long (f0_v7 x0)), .second, .val (.int (f0_j10 x0)), .val (.int (f0_v15 x0)), .val (.int (f0_v17 x0))]) rfl ?_
    show Steps p.tables e below (T16.setTop (mkF m 71 #[.val (.long x0), .second, .val (.ref b1), .val (.long (f0_v3 x0)), .second, .val (.long (f0_v5 x0)), .second, .val (.long (f0_v7 x0)), .second, .val (.int (f0_j10 x0)), .val (.int (f0_v15 x0)), .val (.int (f0_v17 x0))] [])) _
    refine XS.iload X16.here hx rfl (hb hby at_71) rfl ?_
    exact k
  obtain ⟨T32, L32, X32, N32, e32, pre32⟩ : ∃ (T' : State) (L' : List Loc), Stand p l e room_1 s m #[(.long x0)] below meth c T' L' 1 3 ∧ Fr n0 L' ∧ T'.heap = h1 ∧ ∀ t, Steps p.tables e below (T'.setTop (mkF m 91 #[.val (.long x0), .second, .val (.ref b1), .val (.long (f0_v3 x0)), .second, .val (.long (f0_v5 x0)), .second, .val (.long (f0_v7 x0)), .second, .val (.int (f0_j10 x0)), .val (.int (f0_v15 x0)), .val (.int (f0_v17 x0))] [(.int (f0_j31 x0))])) t → Steps p.tables e below (s₁.setTop (entryFrame m #[(.long x0)] maxLocals)) t := by
    rcases Bool.eq_false_or_eq_true (ifCond.holds .eq (f0_j10 x0)) with hc19 | hc19
    · have pre33 : ∀ t, Steps p.tables e below (T16.setTop (mkF m 91 #[.val (.long x0), .second, .val (.ref b1), .val (.long (f0_v3 x0)), .second, .val (.long (f0_v5 x0)), .second, .val (.long (f0_v7 x0)), .second, .val (.int (f0_j10 x0)), .val (.int (f0_v15 x0)), .val (.int (f0_v17 x0))] [(.int (0 : Int32))])) t → Steps p.tables e below (s₁.setTop (entryFrame m #[(.long x0)] maxLocals)) t := by
        intro t k
        refine pre18 _ ?_
        show Steps p.tables e below (T16.setTop (mkF m 73 #[.val (.long x0), .second, .val (.ref b1), .val (.long (f0_v3 x0)), .second, .val (.long (f0_v5 x0)), .second, .val (.long (f0_v7 x0)), .second, .val (.int (f0_j10 x0)), .val (.int (f0_v15 x0)), .val (.int (f0_v17 x0))] [(.int (f0_j10 x0))])) _
        refine XS.ifYes X16.here hx rfl (pc0 := 73) (pc' := 90) rfl (hb hby at_73) rfl hc19 (by decide) (by decide) ?_
        show Steps p.tables e below (T16.setTop (mkF m 90 #[.val (.long x0), .second, .val (.ref b1), .val (.long (f0_v3 x0)), .second, .val (.long (f0_v5 x0)), .second, .val (.long (f0_v7 x0)), .second, .val (.int (f0_j10 x0)), .val (.int (f0_v15 x0)), .val (.int (f0_v17 x0))] [])) _
        refine XS.iconst X16.here hx rfl (hb hby at_90) ?_
        exact k
      have qj0 : (f0_j31 x0) = (0 : Int32) := if_pos hc19
      refine ⟨T16, _, X16, N16, e16, fun t k => pre33 _ ?_⟩
      rw [qj0] at k
      exact k
    · have pre20 : ∀ t, Steps p.tables e below (T16.setTop (mkF m 78 #[.val (.long x0), .second, .val (.ref b1), .val (.long (f0_v3 x0)), .second, .val (.long (f0_v5 x0)), .second, .val (.long (f0_v7 x0)), .second, .val (.int (f0_j10 x0)), .val (.int (f0_v15 x0)), .val (.int (f0_v17 x0))] [(.int (f0_v15 x0))])) t → Steps p.tables e below (s₁.setTop (entryFrame m #[(.long x0)] maxLocals)) t := by
        intro t k
        refine pre18 _ ?_
        show Steps p.tables e below (T16.setTop (mkF m 73 #[.val (.long x0), .second, .val (.ref b1), .val (.long (f0_v3 x0)), .second, .val (.long (f0_v5 x0)), .second, .val (.long (f0_v7 x0)), .second, .val (.int (f0_j10 x0)), .val (.int (f0_v15 x0)), .val (.int (f0_v17 x0))] [(.int (f0_j10 x0))])) _
        refine XS.ifNo X16.here hx rfl (hb hby at_73) rfl hc19 ?_
        show Steps p.tables e below (T16.setTop (mkF m 76 #[.val (.long x0), .second, .val (.ref b1), .val (.long (f0_v3 x0)), .second, .val (.long (f0_v5 x0)), .second, .val (.long (f0_v7 x0)), .second, .val (.int (f0_j10 x0)), .val (.int (f0_v15 x0)), .val (.int (f0_v17 x0))] [])) _
        refine XS.iload X16.here hx rfl (hb hby at_76) rfl ?_
        exact k
      obtain ⟨T29, L29, X29, N29, e29, pre29⟩ : ∃ (T' : State) (L' : List Loc), Stand p l e room_1 s m #[(.long x0)] below meth c T' L' 1 3 ∧ Fr n0 L' ∧ T'.heap = h1 ∧ ∀ t, Steps p.tables e below (T'.setTop (mkF m 91 #[.val (.long x0), .second, .val (.ref b1), .val (.long (f0_v3 x0)), .second, .val (.long (f0_v5 x0)), .second, .val (.long (f0_v7 x0)), .second, .val (.int (f0_j10 x0)), .val (.int (f0_v15 x0)), .val (.int (f0_v17 x0))] [(.int (f0_j28 x0))])) t → Steps p.tables e below (s₁.setTop (entryFrame m #[(.long x0)] maxLocals)) t := by
        rcases Bool.eq_false_or_eq_true (ifCond.holds .eq (f0_v15 x0)) with hc21 | hc21
        · have pre30 : ∀ t, Steps p.tables e below (T16.setTop (mkF m 91 #[.val (.long x0), .second, .val (.ref b1), .val (.long (f0_v3 x0)), .second, .val (.long (f0_v5 x0)), .second, .val (.long (f0_v7 x0)), .second, .val (.int (f0_j10 x0)), .val (.int (f0_v15 x0)), .val (.int (f0_v17 x0))] [(.int (0 : Int32))])) t → Steps p.tables e below (s₁.setTop (entryFrame m #[(.long x0)] maxLocals)) t := by
            intro t k
            refine pre20 _ ?_
            show Steps p.tables e below (T16.setTop (mkF m 78 #[.val (.long x0), .second, .val (.ref b1), .val (.long (f0_v3 x0)), .second, .val (.long (f0_v5 x0)), .second, .val (.long (f0_v7 x0)), .second, .val (.int (f0_j10 x0)), .val (.int (f0_v15 x0)), .val (.int (f0_v17 x0))] [(.int (f0_v15 x0))])) _
            refine XS.ifYes X16.here hx rfl (pc0 := 78) (pc' := 90) rfl (hb hby at_78) rfl hc21 (by decide) (by decide) ?_
            show Steps p.tables e below (T16.setTop (mkF m 90 #[.val (.long x0), .second, .val (.ref b1), .val (.long (f0_v3 x0)), .second, .val (.long (f0_v5 x0)), .second, .val (.long (f0_v7 x0)), .second, .val (.int (f0_j10 x0)), .val (.int (f0_v15 x0)), .val (.int (f0_v17 x0))] [])) _
            refine XS.iconst X16.here hx rfl (hb hby at_90) ?_
            exact k
          have qj0 : (f0_j28 x0) = (0 : Int32) := if_pos hc21
          refine ⟨T16, _, X16, N16, e16, fun t k => pre30 _ ?_⟩
          rw [qj0] at k
          exact k
        · have pre22 : ∀ t, Steps p.tables e below (T16.setTop (mkF m 83 #[.val (.long x0), .second, .val (.ref b1), .val (.long (f0_v3 x0)), .second, .val (.long (f0_v5 x0)), .second, .val (.long (f0_v7 x0)), .second, .val (.int (f0_j10 x0)), .val (.int (f0_v15 x0)), .val (.int (f0_v17 x0))] [(.int (f0_v17 x0))])) t → Steps p.tables e below (s₁.setTop (entryFrame m #[(.long x0)] maxLocals)) t := by
            intro t k
            refine pre20 _ ?_
            show Steps p.tables e below (T16.setTop (mkF m 78 #[.val (.long x0), .second, .val (.ref b1), .val (.long (f0_v3 x0)), .second, .val (.long (f0_v5 x0)), .second, .val (.long (f0_v7 x0)), .second, .val (.int (f0_j10 x0)), .val (.int (f0_v15 x0)), .val (.int (f0_v17 x0))] [(.int (f0_v15 x0))])) _
            refine XS.ifNo X16.here hx rfl (hb hby at_78) rfl hc21 ?_
            show Steps p.tables e below (T16.setTop (mkF m 81 #[.val (.long x0), .second, .val (.ref b1), .val (.long (f0_v3 x0)), .second, .val (.long (f0_v5 x0)), .second, .val (.long (f0_v7 x0)), .second, .val (.int (f0_j10 x0)), .val (.int (f0_v15 x0)), .val (.int (f0_v17 x0))] [])) _
            refine XS.iload X16.here hx rfl (hb hby at_81) rfl ?_
            exact k
          obtain ⟨T25, L25, X25, N25, e25, pre25⟩ : ∃ (T' : State) (L' : List Loc), Stand p l e room_1 s m #[(.long x0)] below meth c T' L' 1 3 ∧ Fr n0 L' ∧ T'.heap = h1 ∧ ∀ t, Steps p.tables e below (T'.setTop (mkF m 91 #[.val (.long x0), .second, .val (.ref b1), .val (.long (f0_v3 x0)), .second, .val (.long (f0_v5 x0)), .second, .val (.long (f0_v7 x0)), .second, .val (.int (f0_j10 x0)), .val (.int (f0_v15 x0)), .val (.int (f0_v17 x0))] [(.int (f0_j24 x0))])) t → Steps p.tables e below (s₁.setTop (entryFrame m #[(.long x0)] maxLocals)) t := by
            rcases Bool.eq_false_or_eq_true (ifCond.holds .eq (f0_v17 x0)) with hc23 | hc23
            · have pre26 : ∀ t, Steps p.tables e below (T16.setTop (mkF m 91 #[.val (.long x0), .second, .val (.ref b1), .val (.long (f0_v3 x0)), .second, .val (.long (f0_v5 x0)), .second, .val (.long (f0_v7 x0)), .second, .val (.int (f0_j10 x0)), .val (.int (f0_v15 x0)), .val (.int (f0_v17 x0))] [(.int (0 : Int32))])) t → Steps p.tables e below (s₁.setTop (entryFrame m #[(.long x0)] maxLocals)) t := by
                intro t k
                refine pre22 _ ?_
                show Steps p.tables e below (T16.setTop (mkF m 83 #[.val (.long x0), .second, .val (.ref b1), .val (.long (f0_v3 x0)), .second, .val (.long (f0_v5 x0)), .second, .val (.long (f0_v7 x0)), .second, .val (.int (f0_j10 x0)), .val (.int (f0_v15 x0)), .val (.int (f0_v17 x0))] [(.int (f0_v17 x0))])) _
                refine XS.ifYes X16.here hx rfl (pc0 := 83) (pc' := 90) rfl (hb hby at_83) rfl hc23 (by decide) (by decide) ?_
                show Steps p.tables e below (T16.setTop (mkF m 90 #[.val (.long x0), .second, .val (.ref b1), .val (.long (f0_v3 x0)), .second, .val (.long (f0_v5 x0)), .second, .val (.long (f0_v7 x0)), .second, .val (.int (f0_j10 x0)), .val (.int (f0_v15 x0)), .val (.int (f0_v17 x0))] [])) _
                refine XS.iconst X16.here hx rfl (hb hby at_90) ?_
                exact k
              have qj0 : (f0_j24 x0) = (0 : Int32) := if_pos hc23
              refine ⟨T16, _, X16, N16, e16, fun t k => pre26 _ ?_⟩
              rw [qj0] at k
              exact k
            · have pre27 : ∀ t, Steps p.tables e below (T16.setTop (mkF m 91 #[.val (.long x0), .second, .val (.ref b1), .val (.long (f0_v3 x0)), .second, .val (.long (f0_v5 x0)), .second, .val (.long (f0_v7 x0)), .second, .val (.int (f0_j10 x0)), .val (.int (f0_v15 x0)), .val (.int (f0_v17 x0))] [(.int (1 : Int32))])) t → Steps p.tables e below (s₁.setTop (entryFrame m #[(.long x0)] maxLocals)) t := by
                intro t k
                refine pre22 _ ?_
                show Steps p.tables e below (T16.setTop (mkF m 83 #[.val (.long x0), .second, .val (.ref b1), .val (.long (f0_v3 x0)), .second, .val (.long (f0_v5 x0)), .second, .val (.long (f0_v7 x0)), .second, .val (.int (f0_j10 x0)), .val (.int (f0_v15 x0)), .val (.int (f0_v17 x0))] [(.int (f0_v17 x0))])) _
                refine XS.ifNo X16.here hx rfl (hb hby at_83) rfl hc23 ?_
                show Steps p.tables e below (T16.setTop (mkF m 86 #[.val (.long x0), .second, .val (.ref b1), .val (.long (f0_v3 x0)), .second, .val (.long (f0_v5 x0)), .second, .val (.long (f0_v7 x0)), .second, .val (.int (f0_j10 x0)), .val (.int (f0_v15 x0)), .val (.int (f0_v17 x0))] [])) _
                refine XS.iconst X16.here hx rfl (hb hby at_86) ?_
                show Steps p.tables e below (T16.setTop (mkF m 87 #[.val (.long x0), .second, .val (.ref b1), .val (.long (f0_v3 x0)), .second, .val (.long (f0_v5 x0)), .second, .val (.long (f0_v7 x0)), .second, .val (.int (f0_j10 x0)), .val (.int (f0_v15 x0)), .val (.int (f0_v17 x0))] [(.int (1 : Int32))])) _
                refine XS.goto X16.here hx rfl (pc0 := 87) (pc' := 91) rfl (hb hby at_87) (by decide) (by decide) ?_
                exact k
              have qj0 : (f0_j24 x0) = (1 : Int32) := if_neg (own_nt hc23)
              refine ⟨T16, _, X16, N16, e16, fun t k => pre27 _ ?_⟩
              rw [qj0] at k
              exact k
          have qj0 : (f0_j28 x0) = (f0_j24 x0) := if_neg (own_nt hc21)
          refine ⟨T25, _, X25, N25, e25, fun t k => pre25 _ ?_⟩
          rw [qj0] at k
          exact k
      have qj0 : (f0_j31 x0) = (f0_j28 x0) := if_neg (own_nt hc19)
      refine ⟨T29, _, X29, N29, e29, fun t k => pre29 _ ?_⟩
      rw [qj0] at k
      exact k
  obtain ⟨fs, hr, hrun, hended, hW, hsame⟩ := X32.leave (v := some (.int (nar .boolean (f0_j31 x0)))) (fun h => by rw [hret] at h; cases h)
  refine ⟨_, _, pre32 _ ?_, hrun, hended, _, _, rfl, ?_, ⟨_, rfl⟩, hW, hsame.mono (by decide) (by decide)⟩
  · show Steps p.tables e below (T32.setTop (mkF m 91 #[.val (.long x0), .second, .val (.ref b1), .val (.long (f0_v3 x0)), .second, .val (.long (f0_v5 x0)), .second, .val (.long (f0_v7 x0)), .second, .val (.int (f0_j10 x0)), .val (.int (f0_v15 x0)), .val (.int (f0_v17 x0))] [(.int (f0_j31 x0))])) _
    exact retN X32 hx (t := .boolean) hret (by simp) (hb hby at_91) hr
  · show Q0 Z x0 h0 n0 _ T32.heap _
    rw [e32]
    have rr : f0 x0 = (nar .boolean (f0_j31 x0)) := rfl
    exact ⟨congrArg (fun z => some (Value.int z)) rr.symm, N32⟩
/-- a quotient toward zero by d, 4 or 8, passes the law's own test -/
theorem own_f8 (h q d lo hi : Int64) (D : Int) (hd : d.toInt = D) (hD : D = 4 ∨ D = 8) (hq : (0 ≤ h.toInt → q.toInt = h.toInt / D) ∧ (h.toInt < 0 → q.toInt = -((-h.toInt) / D))) (hlo : lo.toInt ≤ q.toInt) (hhi : q.toInt ≤ hi.toInt) : f8 h q d lo hi = 1 := by
  have e0 : (0 : Int64).toInt = 0 := rfl
  have e1 : (1 : Int64).toInt = 1 := rfl
  have hh := rng64 h
  have c1 := c_lmul q d
  have r1 := rng64 (q * d)
  have c2 := c_lsub h (q * d)
  have r2 := rng64 (h - q * d)
  have c3 := c_lsub d 1
  have r3 := rng64 (d - 1)
  have c4 := c_lneg (d - 1)
  have r4 := rng64 (-(d - 1))
  rw [hd] at c1
  unfold f8 f8_j16 f8_j12 f8_j27 f8_j23 f8_v5
  simp only [own_clt, own_cle, own_cgt, e0]
  rw [if_neg (by omega), if_pos hhi]
  by_cases hs : h.toInt < 0
  · have k := hq.2 hs
    rw [if_pos hs]
    apply own_nar1
    rcases hD with rfl | rfl
    · rw [if_neg (by omega), if_neg (by omega)]
    · rw [if_neg (by omega), if_neg (by omega)]
  · have k := hq.1 (by omega)
    rw [if_neg hs]
    apply own_nar1
    rcases hD with rfl | rfl
    · rw [if_neg (by omega), if_neg (by omega)]
    · rw [if_neg (by omega), if_neg (by omega)]
theorem own_law (x0 : Int64) : f0 x0 = 1 := by
  have e1 : (1 : Int32).toInt = 1 := rfl
  have hx := rng64 x0
  have d8 := c_ldiv x0 8 8 rfl (by decide)
  have d4 := c_ldiv x0 4 4 rfl (by decide)
  have l1 : (-1152921504606846976 : Int64).toInt = -1152921504606846976 := rfl
  have l2 : (1152921504606846975 : Int64).toInt = 1152921504606846975 := rfl
  have l3 : (-2305843009213693952 : Int64).toInt = -2305843009213693952 := rfl
  have l4 : (2305843009213693951 : Int64).toInt = 2305843009213693951 := rfl
  have h1 : f0_j10 x0 = 1 := by
    unfold f0_j10
    exact if_neg (by rw [own_cne]; exact fun q => q rfl)
  have h2 : f0_v15 x0 = 1 := own_f8 x0 (x0 / 8) 8 _ _ 8 rfl (Or.inr rfl) d8 (by omega) (by omega)
  have h3 : f0_v17 x0 = 1 := own_f8 x0 (x0 / 4) 4 _ _ 4 rfl (Or.inl rfl) d4 (by omega) (by omega)
  have h4 : f0_j31 x0 = 1 := by
    unfold f0_j31 f0_j28 f0_j24
    rw [h1, h2, h3]
    rfl
  exact own_nar1 h4
set_option maxRecDepth 65536 in
set_option maxHeartbeats 40000000 in
theorem comes_1 {Post : Tables → Env → Array Value → State → Outcome → State → Prop} (hpost : ∀ tb e args s v u, (limb_1_1.after args s (.returned v) u = true ∧ limb_1_2.after args s (.returned v) u = true ∧ True) → FrameEnd s (.returned v) u (Jvm.fieldLocs frame_1_writes args s ++ Jvm.arrayLocs frame_1_arrays args s ++ Jvm.staticLocs frame_1_statics s) 16 128 → Post tb e args s (.returned v) u) :
    ArmFor flags0 classFile x code maxLocals ret World_1 tables_1 room_1 Calls_1 rest_1 Pre_1 Post := by
  intro l hfl _ _ p e ha hc hk s m args below hf hA hF happ hP
  obtain ⟨hcalls, hrest, hpre⟩ := hP
  obtain ⟨-, -, -, hnamed, -, -, -, hat⟩ := (Spec.applies_iff hf).mp happ
  obtain ⟨hg, hn⟩ := and_e (Cond.before_iff.mp (show (Jvm.Cond.and given_1 narrow_1).before args s = true from hpre))
  obtain ⟨g1, g2⟩ := and_e hg
  obtain ⟨w0, rfl⟩ : ∃ w0 : Value, args = #[w0] := by
    have hs : args.size = 1 := by simpa [Cond.value, given_1] using g1
    obtain ⟨L⟩ := args
    match L, hs with
    | [w0], _ => exact ⟨w0, rfl⟩
  have hw := fun d (hd : d ∈ tables_1) => atoms_spec (ws := Jvm.Cond.code x code maxLocals ret :: tables_1) hat d (List.mem_cons_of_mem _ hd)
  obtain ⟨i0, ei0⟩ := isL_v g2
  obtain rfl : w0 = (.long i0) := Option.some.inj ei0
  obtain ⟨n, o, h1, h2, h3, v, L, rfl, ⟨hv, N⟩, hq⟩ := rm0 l s _ hw tables_1 i0 s.heap s.heap.size (Nat.le_refl _) p e ha hc hk s m _ below hf ((Spec.applies_iff_loose hf).mp happ).1 ⟨rfl, State.Warmed39.refl s, rfl⟩ trivial
  rw [own_law] at hv
  subst hv
  refine ⟨n, _, h1, h2, h3, hpost _ _ _ _ _ _ ⟨Cond.after_iff.mpr rfl, Cond.after_iff.mpr (eq_i res_at (Term.int_eval (1)) rfl), trivial⟩ ⟨hq.1, hq.2.1, (hq.2.2.sift fun y hy => Or.inr (N y hy)).mono (by decide) (by decide)⟩⟩
theorem main_1_1 : Claimed_1_1 := comes_1 fun _ _ _ _ _ _ h hF => ⟨h.1, hF⟩
theorem main_1_2 : Claimed_1_2 := comes_1 fun _ _ _ _ _ _ h hF => ⟨h.2.1, hF⟩
end Jvm.Pilot.@@N@@
namespace Jvm.Pilot.@@N@@
open Jvm Jvm.ClassFile Sem Op Lib Jvm.Free Jvm.Stand Jvm.Pilot.@@N@@.Jvm.D
/-! MADE BY PROGRAM (witnessworld.py) out of the Statement's table words and the real class files: 10 classes; the members and pool entries that the words name. The judged class is class 1, her method 2. -/
namespace start1
open Jvm.ClassFile
def u (s : String) : CpInfo := .utf8 (stringToUtf16 s)
/-- a pool by its gaps: so many unusable entries, then the entry; so many at the end -/
def gap : Nat → List CpInfo → List CpInfo
  | 0, r => r
  | n + 1, r => .unusable :: gap n r
def poolList (es : List (Nat × CpInfo)) (last : Nat) : List CpInfo := es.foldr (fun e r => gap e.1 (e.2 :: r)) (gap last [])
def pool (es : List (Nat × CpInfo)) (last : Nat) : Array CpInfo := ⟨poolList es last⟩
def fileOf (pool : Array CpInfo) (this : Nat) (attrs : Array Attribute := #[]) (ms : Array MethodInfo := #[]) (fl : Nat := 33) (sup : Nat := 0) (ifs : Array Nat := #[]) (fds : Array FieldInfo := #[]) : ClassFile where
  minorVersion := 0
  majorVersion := 65
  constantPool := pool
  accessFlags := fl
  thisClass := this
  superClass := sup
  interfaces := ifs
  fields := fds
  methods := ms
  attributes := attrs
def plain (name : String) (sup : Option ClassId) : Class where
  name := name
  kind := .ordinary
  loader := none
  accessFlags := 33
  super := sup
  interfaces := #[]
  cf := none
  fields := #[]
  methods := #[]
  instanceTypes := #[]
  staticTypes := #[]
  resolved := #[]
  callSites := []
  init := .initialized
  statics := none
  mirror := none

def pool0 : Array CpInfo := pool [(5, u "<init>"), (0, u "()V"), (1, .class_ 10), (1, u "java/lang/Object")] 113

def k0c0 : Code := { maxStack := 0, maxLocals := 1, code := object_method_1_code, exceptionTable := #[], attributes := #[] }
def k0m0 : Method := { name := "<init>", desc := "()V", sig := { parameters := [], returnType := none }, accessFlags := 1, code := some k0c0 }
/-- java/lang/Object -/
def k0 : Class := { plain "java/lang/Object" none with
  accessFlags := 33
  interfaces := #[]
  cf := some (fileOf pool0 8 #[] #[{ accessFlags := 1, nameIndex := 5, descriptorIndex := 6, attributes := #[] }] 33 0 #[] #[])
  fields := #[]
  methods := #[k0m0]
  instanceTypes := #[]
  staticTypes := #[]
  resolved := Array.replicate 124 none
  statics := none }

def pool1 : Array CpInfo := pool [(2, .class_ 4), (1, u "java/lang/Object"), (0, u "<init>"), (0, u "()V"), (0, .methodref 8 9), (0, .class_ 10), (0, .nameAndType 11 12), (0, u "com/example/parley/parley/transport/WaitingOutput$Limits"), (0, u "forHeap"), (0, u "(J)Lcom/example/parley/parley/transport/WaitingOutput$Limits;"), (0, .methodref 8 14), (0, .nameAndType 15 16), (0, u "perClient"), (0, u "()J"), (0, .methodref 8 18), (0, .nameAndType 19 16), (0, u "perAddress"), (0, .methodref 8 21), (0, .nameAndType 22 16), (0, u "total"), (0, .long 4194304), (1, .long 8), (1, .long 17293822569102704640), (1, .long 1152921504606846975), (1, .methodref 32 33), (0, .class_ 34), (0, .nameAndType 35 36), (0, u "com/example/parley/parley/transport/LimitsForHeapPinLaw"), (0, u "truncQuotient"), (0, u "(JJJJJ)Z"), (0, .long 4), (1, .long 16140901064495857664), (1, .long 2305843009213693951), (4, u "law"), (0, u "(J)Z")] 6

def k1m0 : Method := { name := "<init>", desc := "()V", sig := { parameters := [], returnType := none }, accessFlags := 1, code := none }
def k1c1 : Code := { maxStack := 6, maxLocals := 12, code := method_2_code, exceptionTable := #[], attributes := #[] }
def k1m1 : Method := { name := "truncQuotient", desc := "(JJJJJ)Z", sig := { parameters := [.long, .long, .long, .long, .long], returnType := some .boolean }, accessFlags := 10, code := some k1c1 }
def k1c2 : Code := { maxStack := 10, maxLocals := 12, code := code, exceptionTable := #[], attributes := #[] }
def k1m2 : Method := { name := "law", desc := "(J)Z", sig := { parameters := [.long], returnType := some .boolean }, accessFlags := 9, code := some k1c2 }
/-- com/example/parley/parley/transport/LimitsForHeapPinLaw -/
def k1 : Class := { plain "com/example/parley/parley/transport/LimitsForHeapPinLaw" (some 0) with
  accessFlags := 49
  interfaces := #[]
  cf := some (fileOf pool1 32 #[] #[{ accessFlags := 1, nameIndex := 5, descriptorIndex := 6, attributes := #[] }, { accessFlags := 10, nameIndex := 35, descriptorIndex := 36, attributes := #[] }, { accessFlags := 9, nameIndex := 46, descriptorIndex := 47, attributes := #[] }] 49 2 #[] #[])
  fields := #[]
  methods := #[k1m0, k1m1, k1m2]
  instanceTypes := #[]
  staticTypes := #[]
  resolved := Array.replicate 54 none
  statics := none }

def pool2 : Array CpInfo := pool [(1, .methodref 2 3), (0, .class_ 4), (0, .nameAndType 5 6), (0, u "java/lang/Object"), (0, u "<init>"), (0, u "()V"), (0, .class_ 8), (0, u "java/lang/Record")] 13

def k2c0 : Code := { maxStack := 1, maxLocals := 1, code := jdk_30_method_1_code, exceptionTable := #[], attributes := #[] }
def k2m0 : Method := { name := "<init>", desc := "()V", sig := { parameters := [], returnType := none }, accessFlags := 4, code := some k2c0 }
/-- java/lang/Record -/
def k2 : Class := { plain "java/lang/Record" (some 0) with
  accessFlags := 1057
  interfaces := #[]
  cf := some (fileOf pool2 7 #[] #[{ accessFlags := 4, nameIndex := 5, descriptorIndex := 6, attributes := #[] }] 1057 2 #[] #[])
  fields := #[]
  methods := #[k2m0]
  instanceTypes := #[]
  staticTypes := #[]
  resolved := Array.replicate 22 none
  statics := none }

def pool3 : Array CpInfo := pool [(1, .methodref 2 3), (0, .class_ 4), (0, .nameAndType 5 6), (0, u "java/lang/Record"), (0, u "<init>"), (0, u "()V"), (0, .fieldref 8 9), (0, .class_ 10), (0, .nameAndType 11 12), (0, u "com/example/parley/parley/transport/WaitingOutput$Limits"), (0, u "perClient"), (0, u "J"), (0, .fieldref 8 14), (0, .nameAndType 15 12), (0, u "perAddress"), (0, .fieldref 8 17), (0, .nameAndType 18 12), (0, u "total"), (0, .long 4194304), (1, .long 8), (1, .long 4), (1, .methodref 8 26), (0, .nameAndType 5 27), (0, u "(JJJ)V"), (21, u "()J"), (2, u "forHeap"), (0, u "(J)Lcom/example/parley/parley/transport/WaitingOutput$Limits;"), (2, u "STANDARD"), (0, u "Lcom/example/parley/parley/transport/WaitingOutput$Limits;"), (0, u "PER_CLIENT"), (11, .class_ 71), (0, u "com/example/parley/parley/transport/WaitingOutput")] 21

def k3c0 : Code := { maxStack := 3, maxLocals := 7, code := prog_24_method_1_code, exceptionTable := #[], attributes := #[] }
def k3m0 : Method := { name := "<init>", desc := "(JJJ)V", sig := { parameters := [.long, .long, .long], returnType := none }, accessFlags := 0, code := some k3c0 }
def k3c1 : Code := { maxStack := 10, maxLocals := 2, code := prog_24_method_2_code, exceptionTable := #[], attributes := #[] }
def k3m1 : Method := { name := "forHeap", desc := "(J)Lcom/example/parley/parley/transport/WaitingOutput$Limits;", sig := { parameters := [.long], returnType := some (.object "com/example/parley/parley/transport/WaitingOutput$Limits") }, accessFlags := 8, code := some k3c1 }
def k3c2 : Code := { maxStack := 2, maxLocals := 1, code := prog_24_method_6_code, exceptionTable := #[], attributes := #[] }
def k3m2 : Method := { name := "perClient", desc := "()J", sig := { parameters := [], returnType := some .long }, accessFlags := 1, code := some k3c2 }
def k3c3 : Code := { maxStack := 2, maxLocals := 1, code := prog_24_method_7_code, exceptionTable := #[], attributes := #[] }
def k3m3 : Method := { name := "perAddress", desc := "()J", sig := { parameters := [], returnType := some .long }, accessFlags := 1, code := some k3c3 }
def k3c4 : Code := { maxStack := 2, maxLocals := 1, code := prog_24_method_8_code, exceptionTable := #[], attributes := #[] }
def k3m4 : Method := { name := "total", desc := "()J", sig := { parameters := [], returnType := some .long }, accessFlags := 1, code := some k3c4 }
/-- com/example/parley/parley/transport/WaitingOutput$Limits -/
def k3 : Class := { plain "com/example/parley/parley/transport/WaitingOutput$Limits" (some 2) with
  accessFlags := 48
  interfaces := #[]
  cf := some (fileOf pool3 8 #[.nestHost 70] #[{ accessFlags := 0, nameIndex := 5, descriptorIndex := 27, attributes := #[] }, { accessFlags := 8, nameIndex := 52, descriptorIndex := 53, attributes := #[] }, { accessFlags := 1, nameIndex := 11, descriptorIndex := 49, attributes := #[] }, { accessFlags := 1, nameIndex := 15, descriptorIndex := 49, attributes := #[] }, { accessFlags := 1, nameIndex := 18, descriptorIndex := 49, attributes := #[] }] 48 2 #[] #[{ accessFlags := 18, nameIndex := 11, descriptorIndex := 12, attributes := #[] }, { accessFlags := 18, nameIndex := 15, descriptorIndex := 12, attributes := #[] }, { accessFlags := 18, nameIndex := 18, descriptorIndex := 12, attributes := #[] }, { accessFlags := 24, nameIndex := 58, descriptorIndex := 12, attributes := #[] }, { accessFlags := 24, nameIndex := 56, descriptorIndex := 57, attributes := #[] }])
  fields := #[{ name := "perClient", type := .long, accessFlags := 18, slot := 0, constantValue := 0 }, { name := "perAddress", type := .long, accessFlags := 18, slot := 1, constantValue := 0 }, { name := "total", type := .long, accessFlags := 18, slot := 2, constantValue := 0 }, { name := "PER_CLIENT", type := .long, accessFlags := 24, slot := 0, constantValue := 0 }, { name := "STANDARD", type := (.object "com/example/parley/parley/transport/WaitingOutput$Limits"), accessFlags := 24, slot := 1, constantValue := 0 }]
  methods := #[k3m0, k3m1, k3m2, k3m3, k3m4]
  instanceTypes := #[.long, .long, .long]
  staticTypes := #[.long, (.object "com/example/parley/parley/transport/WaitingOutput$Limits")]
  resolved := Array.replicate 93 none
  statics := none }

def pool4 : Array CpInfo := pool [(1, u "java/lang/Cloneable"), (0, .class_ 1), (0, u "java/lang/Object"), (0, .class_ 3)] 3

/-- java/lang/Cloneable -/
def k4 : Class := { plain "java/lang/Cloneable" (some 0) with
  accessFlags := 1537
  interfaces := #[]
  cf := some (fileOf pool4 2 #[] #[] 1537 4 #[] #[])
  fields := #[]
  methods := #[]
  instanceTypes := #[]
  staticTypes := #[]
  resolved := Array.replicate 8 none
  statics := none }

def pool5 : Array CpInfo := pool [(1, u "java/io/Serializable"), (0, .class_ 1), (0, u "java/lang/Object"), (0, .class_ 3)] 3

/-- java/io/Serializable -/
def k5 : Class := { plain "java/io/Serializable" (some 0) with
  accessFlags := 1537
  interfaces := #[]
  cf := some (fileOf pool5 2 #[] #[] 1537 4 #[] #[])
  fields := #[]
  methods := #[]
  instanceTypes := #[]
  staticTypes := #[]
  resolved := Array.replicate 8 none
  statics := none }

/-- the primitive byte -/
def k6 : Class := { plain "byte" none with kind := .primitive 'B', accessFlags := 0x411 }
/-- [B -/
def k7 : Class := { plain "[B" (some 0) with kind := .array 6 .byte, interfaces := #[4, 5], accessFlags := 1041 }

/-- the primitive int -/
def k8 : Class := { plain "int" none with kind := .primitive 'I', accessFlags := 0x411 }
/-- [I -/
def k9 : Class := { plain "[I" (some 0) with kind := .array 8 .int, interfaces := #[4, 5], accessFlags := 1041 }

def heap : Heap := #[]
def classes : Array Class := #[k0, k1, k2, k3, k4, k5, k6, k7, k8, k9]
def interned : List (Array UInt16 × Addr) := []
def slotsUsed : Nat := 0
def theMethod : MethodId := ⟨1, 2⟩
def args0 : Array Value := #[.long 100]
def aboutOver (below : List Frame) : State where
  vm := { classes := classes, interned := interned.toArray }
  heap := heap
  slotsUsed := slotsUsed
  threads := #[{ frames := .invoking theMethod args0 :: below }]
def below0 : List Frame := [.native { method := ⟨0, 0⟩, args := #[] }]
def about1 : State := aboutOver below0
def p0 : Program := .bare "" "" ""
def e0 : Env := launch0.env 0 0 0
theorem w_frames : about1.frames = Frame.invoking theMethod args0 :: below0 := rfl
set_option maxRecDepth 65536 in
theorem w_args : argsFit about1.vm theMethod args0 = true := by decide +kernel
set_option maxRecDepth 65536 in
theorem w_heap : heapFits about1 = true := by decide +kernel
set_option maxRecDepth 65536 in
theorem w_runnable : about1.curStatus? = some .runnable := by decide +kernel
set_option maxRecDepth 65536 in
theorem w_alone : about1.alone = true := by decide +kernel
set_option maxRecDepth 65536 in
theorem w_named : about1.methodNamed? x = some theMethod := by decide +kernel
set_option maxRecDepth 65536 in
theorem w_hears : about1.hears theMethod below0 = true := by decide +kernel
set_option maxRecDepth 65536 in
theorem w_ripe : about1.ripe theMethod args0 below0 = true := by decide +kernel
theorem w_running : about1.status = .running := rfl
set_option maxRecDepth 65536 in
theorem w_room : about1.hasRoom e0.platform room_1 = true :=
  launch0.hasRoom_least _ room_1 (by decide +kernel) (by decide +kernel) (by decide +kernel) (by decide +kernel) (by decide +kernel) (by decide +kernel)
theorem allAtoms_all (ts : List Jvm.Cond) (a : Array Jvm.Value) (st : Jvm.State) : (allAtoms ts).before a st = ts.all (fun c => c.before a st) := by
  induction ts with
  | nil => rfl
  | cons c t ih =>
    show (Jvm.Cond.and c (allAtoms t)).before a st = _
    rw [Jvm.Cond.before_and, ih, List.all_cons]
def words1 : List Jvm.Cond := Jvm.Cond.code x code maxLocals ret :: tables_1
/-- a 'code' word, met by the world's own term for the bytes: nothing is compared byte by byte -/
theorem code_word {y : MethodName} {bytes : ByteArray} {mx : Nat} {rt : Option FieldType} {a : Array Value} {s : State} {m : MethodId} {meth : Method} {c : Code} (h1 : s.methodNamed? y = some m) (h2 : s.vm.method? m = some meth) (h3 : meth.code = some c) (h4 : c.code = bytes)
    (h5 : (c.maxLocals == mx && c.exceptionTable.isEmpty && decide (c.maxStack ≤ mostOperands) && decide (meth.sig.returnType = rt) && !meth.locks && decide (parseMethodDescriptor y.desc = some meth.sig)) = true) : (Jvm.Cond.code y bytes mx rt).before a s = true := by
  simp only [Bool.and_eq_true, beq_iff_eq, Bool.not_eq_true', decide_eq_true_eq] at h5
  obtain ⟨⟨⟨⟨⟨g1, g2⟩, g3⟩, g4⟩, g5⟩, g6⟩ := h5
  simp [Cond.before, Cond.holds, Cond.value, h1, h2, h3, h4, g1, g2, g3, g4, g5, g6]
def isCode : Jvm.Cond → Bool
  | .code _ _ _ _ => true
  | _ => false
theorem all_split {L : List Jvm.Cond} {P : Jvm.Cond → Bool} (h1 : L.all (fun c => isCode c || P c) = true) (h2 : ∀ c ∈ L.filter isCode, P c = true) : L.all P = true := by
  refine List.all_eq_true.mpr fun c hc => ?_
  have h := List.all_eq_true.mp h1 c hc
  rcases Bool.eq_false_or_eq_true (isCode c) with hi | hi
  · exact h2 c (List.mem_filter.mpr ⟨hc, hi⟩)
  · simpa [hi] using h
set_option maxRecDepth 65536 in
theorem w_c0 : (Jvm.Cond.code x code maxLocals ret).before args0 about1 = true := code_word (m := ⟨1, 2⟩) (meth := k1m2) (c := k1c2) (by decide +kernel) rfl rfl rfl (by decide +kernel)
set_option maxRecDepth 65536 in
theorem w_c1 : (Jvm.Cond.code ({ cls := "com/example/parley/parley/transport/WaitingOutput$Limits", name := "forHeap", desc := "(J)Lcom/example/parley/parley/transport/WaitingOutput$Limits;" } : Jvm.MethodName) prog_24_method_2_code (2 : Nat) (Option.some (Jvm.ClassFile.FieldType.object "com/example/parley/parley/transport/WaitingOutput$Limits"))).before args0 about1 = true := code_word (m := ⟨3, 1⟩) (meth := k3m1) (c := k3c1) (by decide +kernel) rfl rfl rfl (by decide +kernel)
set_option maxRecDepth 65536 in
theorem w_c2 : (Jvm.Cond.code ({ cls := "com/example/parley/parley/transport/WaitingOutput$Limits", name := "<init>", desc := "(JJJ)V" } : Jvm.MethodName) prog_24_method_1_code (7 : Nat) (Option.none : Option Jvm.ClassFile.FieldType)).before args0 about1 = true := code_word (m := ⟨3, 0⟩) (meth := k3m0) (c := k3c0) (by decide +kernel) rfl rfl rfl (by decide +kernel)
set_option maxRecDepth 65536 in
theorem w_c3 : (Jvm.Cond.code ({ cls := "java/lang/Record", name := "<init>", desc := "()V" } : Jvm.MethodName) jdk_30_method_1_code (1 : Nat) (Option.none : Option Jvm.ClassFile.FieldType)).before args0 about1 = true := code_word (m := ⟨2, 0⟩) (meth := k2m0) (c := k2c0) (by decide +kernel) rfl rfl rfl (by decide +kernel)
set_option maxRecDepth 65536 in
theorem w_c4 : (Jvm.Cond.code ({ cls := "java/lang/Object", name := "<init>", desc := "()V" } : Jvm.MethodName) object_method_1_code (1 : Nat) (Option.none : Option Jvm.ClassFile.FieldType)).before args0 about1 = true := code_word (m := ⟨0, 0⟩) (meth := k0m0) (c := k0c0) (by decide +kernel) rfl rfl rfl (by decide +kernel)
set_option maxRecDepth 65536 in
theorem w_c5 : (Jvm.Cond.code ({ cls := "com/example/parley/parley/transport/WaitingOutput$Limits", name := "perClient", desc := "()J" } : Jvm.MethodName) prog_24_method_6_code (1 : Nat) (Option.some Jvm.ClassFile.FieldType.long)).before args0 about1 = true := code_word (m := ⟨3, 2⟩) (meth := k3m2) (c := k3c2) (by decide +kernel) rfl rfl rfl (by decide +kernel)
set_option maxRecDepth 65536 in
theorem w_c6 : (Jvm.Cond.code ({ cls := "com/example/parley/parley/transport/WaitingOutput$Limits", name := "perAddress", desc := "()J" } : Jvm.MethodName) prog_24_method_7_code (1 : Nat) (Option.some Jvm.ClassFile.FieldType.long)).before args0 about1 = true := code_word (m := ⟨3, 3⟩) (meth := k3m3) (c := k3c3) (by decide +kernel) rfl rfl rfl (by decide +kernel)
set_option maxRecDepth 65536 in
theorem w_c7 : (Jvm.Cond.code ({ cls := "com/example/parley/parley/transport/WaitingOutput$Limits", name := "total", desc := "()J" } : Jvm.MethodName) prog_24_method_8_code (1 : Nat) (Option.some Jvm.ClassFile.FieldType.long)).before args0 about1 = true := code_word (m := ⟨3, 4⟩) (meth := k3m4) (c := k3c4) (by decide +kernel) rfl rfl rfl (by decide +kernel)
set_option maxRecDepth 65536 in
theorem w_c8 : (Jvm.Cond.code ({ cls := "com/example/parley/parley/transport/LimitsForHeapPinLaw", name := "truncQuotient", desc := "(JJJJJ)Z" } : Jvm.MethodName) method_2_code (12 : Nat) (Option.some Jvm.ClassFile.FieldType.boolean)).before args0 about1 = true := code_word (m := ⟨1, 1⟩) (meth := k1m1) (c := k1c1) (by decide +kernel) rfl rfl rfl (by decide +kernel)
def codes1 : List Jvm.Cond := [Jvm.Cond.code x code maxLocals ret, Jvm.Cond.code ({ cls := "com/example/parley/parley/transport/WaitingOutput$Limits", name := "forHeap", desc := "(J)Lcom/example/parley/parley/transport/WaitingOutput$Limits;" } : Jvm.MethodName) prog_24_method_2_code (2 : Nat) (Option.some (Jvm.ClassFile.FieldType.object "com/example/parley/parley/transport/WaitingOutput$Limits")), Jvm.Cond.code ({ cls := "com/example/parley/parley/transport/WaitingOutput$Limits", name := "<init>", desc := "(JJJ)V" } : Jvm.MethodName) prog_24_method_1_code (7 : Nat) (Option.none : Option Jvm.ClassFile.FieldType), Jvm.Cond.code ({ cls := "java/lang/Record", name := "<init>", desc := "()V" } : Jvm.MethodName) jdk_30_method_1_code (1 : Nat) (Option.none : Option Jvm.ClassFile.FieldType), Jvm.Cond.code ({ cls := "java/lang/Object", name := "<init>", desc := "()V" } : Jvm.MethodName) object_method_1_code (1 : Nat) (Option.none : Option Jvm.ClassFile.FieldType), Jvm.Cond.code ({ cls := "com/example/parley/parley/transport/WaitingOutput$Limits", name := "perClient", desc := "()J" } : Jvm.MethodName) prog_24_method_6_code (1 : Nat) (Option.some Jvm.ClassFile.FieldType.long), Jvm.Cond.code ({ cls := "com/example/parley/parley/transport/WaitingOutput$Limits", name := "perAddress", desc := "()J" } : Jvm.MethodName) prog_24_method_7_code (1 : Nat) (Option.some Jvm.ClassFile.FieldType.long), Jvm.Cond.code ({ cls := "com/example/parley/parley/transport/WaitingOutput$Limits", name := "total", desc := "()J" } : Jvm.MethodName) prog_24_method_8_code (1 : Nat) (Option.some Jvm.ClassFile.FieldType.long), Jvm.Cond.code ({ cls := "com/example/parley/parley/transport/LimitsForHeapPinLaw", name := "truncQuotient", desc := "(JJJJJ)Z" } : Jvm.MethodName) method_2_code (12 : Nat) (Option.some Jvm.ClassFile.FieldType.boolean)]
set_option maxRecDepth 65536 in
theorem codes_eq : words1.filter isCode = codes1 := rfl
theorem w_codes : ∀ c ∈ words1.filter isCode, c.before args0 about1 = true := by
  rw [codes_eq]
  intro c hc
  simp only [codes1, List.mem_cons, List.not_mem_nil, or_false] at hc
  rcases hc with rfl | rfl | rfl | rfl | rfl | rfl | rfl | rfl | rfl
  · exact w_c0
  · exact w_c1
  · exact w_c2
  · exact w_c3
  · exact w_c4
  · exact w_c5
  · exact w_c6
  · exact w_c7
  · exact w_c8
set_option maxRecDepth 65536 in
theorem w_t1 : (words1.take 24).all (fun c => isCode c || c.before args0 about1) = true := by decide +kernel
set_option maxRecDepth 65536 in
theorem w_t2 : ((words1.drop 24).take 24).all (fun c => isCode c || c.before args0 about1) = true := by decide +kernel
set_option maxRecDepth 65536 in
theorem w_t3 : ((words1.drop 24).drop 24).all (fun c => isCode c || c.before args0 about1) = true := by decide +kernel
theorem w_tables : (allAtoms (Jvm.Cond.code x code maxLocals ret :: tables_1)).before args0 about1 = true := by
  rw [allAtoms_all]
  show words1.all (fun c => c.before args0 about1) = true
  refine all_split ?_ w_codes
  rw [← List.take_append_drop 24 words1, List.all_append, w_t1, ← List.take_append_drop 24 (words1.drop 24), List.all_append, w_t2, w_t3]
  rfl
set_option maxRecDepth 65536 in
theorem w_case : (Jvm.Cond.and given_1 narrow_1).before args0 about1 = true := by decide +kernel
theorem w_applies : (headSpec (Jvm.Cond.code x code maxLocals ret :: tables_1) room_1).applies x e0.platform about1 = true :=
  (Spec.applies_iff w_frames).mpr ⟨w_running, w_runnable, w_alone, w_named, w_hears, w_ripe, w_room, w_tables⟩
theorem atStart : AtStart classFile x code maxLocals ret World_1 tables_1 room_1 Calls_1 rest_1 Pre_1 launch0 p0 e0 about1 theMethod args0 below0 :=
  ⟨lists_1, trivial, launch0.admits_env _ _ _, launch0.least_env, fairChoices_fair.cas, fairChoices_fair.clock, w_frames, w_args, w_heap, w_applies, trivial, trivial, w_case⟩
end start1
theorem witness_1 : WitnessClaimed_1 := ⟨start1.p0, start1.e0, start1.about1, start1.theMethod, start1.args0, start1.below0, start1.atStart⟩
end Jvm.Pilot.@@N@@
