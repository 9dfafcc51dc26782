import JvmDerived
import JvmDerived.Pilot.@@N@@Statement
import JvmDerived.Pilot.@@N@@Code
set_option linter.unusedVariables false
set_option linter.unusedSimpArgs false
@@BLOCK:NumsL.lean.txt@@
namespace Jvm.RoadKit
open Sem ClassFile Op Lib Jvm.Stand Jvm.Free Jvm.LawKit
section New
variable {p : Program} {l : Launch} {e : Env} {R : Room} {s : State} {m : MethodId} {args : Array Value} {below : List Frame} {meth : Method} {c : Code} {T : State} {locs : List Loc} {cells slots : Nat}
theorem retI (X : Stand p l e R s m args below meth c T locs cells slots) (hx : p.tables.exec = Jvm.exec) {pc : Nat} {Ls : Array Slot} {z : Int32} {rest : List Value} (hret : meth.sig.returnType = some .int) (hd : decode c.code pc = .ok (.ireturn, 1)) {fs : List Frame}
    (hl : ∀ (f : JFrame) (acts : List Action), f.method = m → f.locked = none → f.entered = [] → (doReturn e (T.setTop f) acts (some (.int z))).1 = T.setFrames fs) : Steps p.tables e below (T.setTop (mkF m pc Ls (.int z :: rest))) (T.setFrames fs) := by
  have hm' : T.vm.method? m = some meth := X.method'
  have hn : narrow .int (.int z) = .int z := rfl
  show Steps p.tables e below (T.setTop { method := m, pc := pc, locals := Ls, stack := _ :: rest, locked := none }) _
  jvm_step X.here [X.here.top, hx, hd, hm', hret, hn]
  first | (intro acts; rw [hl _ acts rfl rfl rfl]) | rw [hl _ _ rfl rfl rfl]
  exact Steps.refl _
end New
end Jvm.RoadKit
namespace Jvm.Pilot.@@N@@
open Jvm Jvm.ClassFile Sem Op Lib Jvm.Free Jvm.Stand Jvm.LawKit Jvm.RoadKit Bundle Jvm.Pilot.@@N@@.Jvm.D
theorem own_nt {b : Bool} (h : b = false) : ¬ b = true := fun q => by rw [h] at q; cases q
theorem own_ts_ne {α : Type} {o : Option α} {a b : α} (h : o = some b) (ne : b ≠ a) : ¬ o = some a := fun q => ne (Option.some.inj (h.symm.trans q))
/-- what lcmp pushes; Java's shifts and the remainder of longs -/
def own_cmp (x y : Int64) : Int32 := lcmpW x y
def own_iushr (x y : Int32) : Int32 := (x.toUInt32 >>> (y &&& 31).toUInt32).toInt32
def own_lushr (x : Int64) (y : Int32) : Int64 := (x.toUInt64 >>> (y &&& 0x3f).toInt64.toUInt64).toInt64
def own_lshl (x : Int64) (y : Int32) : Int64 := x <<< (y &&& 0x3f).toInt64
def own_lshr (x : Int64) (y : Int32) : Int64 := x >>> (y &&& 0x3f).toInt64
def own_lrem (x y : Int64) : Int64 := x - (x / y) * y
theorem own_ieq (x y : Int32) : (if_icmp.holds .eq x y = true) = (x.toInt = y.toInt) := by
  rw [show if_icmp.holds .eq x y = (x == y) from rfl, beq_iff_eq, Int32.toInt_inj]
theorem own_ine (x y : Int32) : (if_icmp.holds .ne x y = true) = (x.toInt ≠ y.toInt) := by
  rw [show if_icmp.holds .ne x y = (x != y) from rfl, bne_iff_ne, ne_eq, ne_eq, Int32.toInt_inj]
theorem own_ilt (x y : Int32) : (if_icmp.holds .lt x y = true) = (x.toInt < y.toInt) := by
  rw [show if_icmp.holds .lt x y = decide (x < y) from rfl, decide_eq_true_eq, Int32.lt_iff_toInt_lt]
theorem own_ige (x y : Int32) : (if_icmp.holds .ge x y = true) = (y.toInt ≤ x.toInt) := by
  rw [show if_icmp.holds .ge x y = decide (y ≤ x) from rfl, decide_eq_true_eq, Int32.le_iff_toInt_le]
theorem own_igt (x y : Int32) : (if_icmp.holds .gt x y = true) = (y.toInt < x.toInt) := by
  rw [show if_icmp.holds .gt x y = decide (y < x) from rfl, decide_eq_true_eq, Int32.lt_iff_toInt_lt]
theorem own_ile (x y : Int32) : (if_icmp.holds .le x y = true) = (x.toInt ≤ y.toInt) := by
  rw [show if_icmp.holds .le x y = decide (x ≤ y) from rfl, decide_eq_true_eq, Int32.le_iff_toInt_le]
theorem own_z32 : (0 : Int32).toInt = 0 := rfl
theorem own_eq0 (x : Int32) : (ifCond.holds .eq x = true) = (x.toInt = 0) := by rw [if0, own_ieq, own_z32]
theorem own_ne0 (x : Int32) : (ifCond.holds .ne x = true) = (x.toInt ≠ 0) := by rw [if0, own_ine, own_z32]
theorem own_lt0 (x : Int32) : (ifCond.holds .lt x = true) = (x.toInt < 0) := by rw [if0, own_ilt, own_z32]
theorem own_ge0 (x : Int32) : (ifCond.holds .ge x = true) = (0 ≤ x.toInt) := by rw [if0, own_ige, own_z32]
theorem own_gt0 (x : Int32) : (ifCond.holds .gt x = true) = (0 < x.toInt) := by rw [if0, own_igt, own_z32]
theorem own_le0 (x : Int32) : (ifCond.holds .le x = true) = (x.toInt ≤ 0) := by rw [if0, own_ile, own_z32]
theorem own_cmp3 (x y : Int64) : (x.toInt < y.toInt ∧ (own_cmp x y).toInt = -1) ∨ (x.toInt = y.toInt ∧ (own_cmp x y).toInt = 0) ∨ (y.toInt < x.toInt ∧ (own_cmp x y).toInt = 1) := by
  obtain ⟨h1, h2, h3⟩ := c_lcmp x y
  have e : own_cmp x y = lcmpW x y := rfl
  rw [e]
  rcases Int.lt_trichotomy x.toInt y.toInt with h | h | h
  · exact Or.inl ⟨h, h1 h⟩
  · exact Or.inr (Or.inl ⟨h, h2 h⟩)
  · exact Or.inr (Or.inr ⟨h, h3 h⟩)
theorem own_ceq (x y : Int64) : (ifCond.holds .eq (own_cmp x y) = true) = (x.toInt = y.toInt) := by
  rw [own_eq0]; have := own_cmp3 x y; exact propext ⟨fun h => by omega, fun h => by omega⟩
theorem own_cne (x y : Int64) : (ifCond.holds .ne (own_cmp x y) = true) = (x.toInt ≠ y.toInt) := by
  rw [own_ne0]; have := own_cmp3 x y; exact propext ⟨fun h => by omega, fun h => by omega⟩
theorem own_clt (x y : Int64) : (ifCond.holds .lt (own_cmp x y) = true) = (x.toInt < y.toInt) := by
  rw [own_lt0]; have := own_cmp3 x y; exact propext ⟨fun h => by omega, fun h => by omega⟩
theorem own_cge (x y : Int64) : (ifCond.holds .ge (own_cmp x y) = true) = (y.toInt ≤ x.toInt) := by
  rw [own_ge0]; have := own_cmp3 x y; exact propext ⟨fun h => by omega, fun h => by omega⟩
theorem own_cgt (x y : Int64) : (ifCond.holds .gt (own_cmp x y) = true) = (y.toInt < x.toInt) := by
  rw [own_gt0]; have := own_cmp3 x y; exact propext ⟨fun h => by omega, fun h => by omega⟩
theorem own_cle (x y : Int64) : (ifCond.holds .le (own_cmp x y) = true) = (x.toInt ≤ y.toInt) := by
  rw [own_le0]; have := own_cmp3 x y; exact propext ⟨fun h => by omega, fun h => by omega⟩
theorem own_nar1 {x : Int32} (h : x = 1) : nar .boolean x = 1 := by rw [h]; rfl
theorem own_nar0 {x : Int32} (h : x = 0) : nar .boolean x = 0 := by rw [h]; rfl
/-- the last row of a law: a comparison that isn't met gives 0, else 1 -/
theorem own_last {c : Prop} [Decidable c] (h : ¬ c) : nar .boolean (if c then (0 : Int32) else 1) = 1 := by rw [if_neg h]; rfl
theorem own_n32 (x : Int32) : (x.toBitVec.toNat : Int) = x.toInt % 4294967296 := by
  have h := x.toBitVec.isLt
  show _ = x.toBitVec.toInt % _
  rw [BitVec.toInt_eq_toNat_cond]
  split <;> omega
theorem own_n64 (x : Int64) : (x.toBitVec.toNat : Int) = x.toInt % 18446744073709551616 := by
  have h := x.toBitVec.isLt
  show _ = x.toBitVec.toInt % _
  rw [BitVec.toInt_eq_toNat_cond]
  split <;> omega
theorem own_iushr_nat (x y : Int32) : (own_iushr x y).toBitVec.toNat = x.toBitVec.toNat / 2 ^ (y.toBitVec.toNat % 32) := by
  have h1 : (y &&& 31).toBitVec.toNat = y.toBitVec.toNat % 32 := by
    show (y.toBitVec &&& (31 : Int32).toBitVec).toNat = _
    rw [BitVec.toNat_and, show (31 : Int32).toBitVec.toNat = 2 ^ 5 - 1 from by decide, Nat.and_two_pow_sub_one_eq_mod]
  show (x.toBitVec >>> ((y &&& 31).toBitVec % 32)).toNat = _
  rw [BitVec.ushiftRight_eq', BitVec.toNat_ushiftRight, Nat.shiftRight_eq_div_pow, BitVec.toNat_umod, h1, show (32 : BitVec 32).toNat = 32 from rfl, Nat.mod_mod]
theorem own_lushr_nat (x : Int64) (y : Int32) : (own_lushr x y).toBitVec.toNat = x.toBitVec.toNat / 2 ^ (y.toBitVec.toNat % 64) := by
  obtain ⟨h1, h2⟩ := sm64 y _ rfl
  show (x.toBitVec >>> ((y &&& 0x3f).toInt64.toBitVec % 64)).toNat = _
  rw [BitVec.ushiftRight_eq', BitVec.toNat_ushiftRight, Nat.shiftRight_eq_div_pow, BitVec.toNat_umod, h1, BitVec.toNat_ofNat]
  congr 2
  show y.toBitVec.toNat % 64 % 2 ^ 64 % 64 = _
  omega
theorem own_iushr_nn (x y : Int32) (h : 0 ≤ x.toInt) : 0 ≤ (own_iushr x y).toInt ∧ (own_iushr x y).toInt ≤ x.toInt := by
  have a := own_iushr_nat x y
  have b := Nat.div_le_self x.toBitVec.toNat (2 ^ (y.toBitVec.toNat % 32))
  have c := own_n32 x
  have d := own_n32 (own_iushr x y)
  have r := rng32 x
  have r2 := rng32 (own_iushr x y)
  omega
theorem own_lushr_nn (x : Int64) (y : Int32) (h : 0 ≤ x.toInt) : 0 ≤ (own_lushr x y).toInt ∧ (own_lushr x y).toInt ≤ x.toInt := by
  have a := own_lushr_nat x y
  have b := Nat.div_le_self x.toBitVec.toNat (2 ^ (y.toBitVec.toNat % 64))
  have c := own_n64 x
  have d := own_n64 (own_lushr x y)
  have r := rng64 x
  have r2 := rng64 (own_lushr x y)
  omega
theorem own_ff {b : Bool} (h : ¬ b = true) : b = false := by cases b <;> first | rfl | exact absurd rfl h
theorem own_clt_f {x y : Int64} (h : ¬ x.toInt < y.toInt) : ifCond.holds .lt (own_cmp x y) = false := own_ff fun q => h ((own_clt x y).mp q)
theorem own_nz {x : Int64} (h : (0 : Int64).toInt < x.toInt) : x ≠ 0 := fun q => by rw [q] at h; exact absurd h (Int.lt_irrefl _)
theorem own_max (x : Int64) : x.toInt ≤ (9223372036854775807 : Int64).toInt := by
  have r := rng64 x
  have e : (9223372036854775807 : Int64).toInt = 9223372036854775807 := rfl
  omega

-- body 2: java/lang/Record.<init>:()V
theorem d2_0 : decode jdk_30_method_1_code 0 = .ok (.aload_n 0, 1) := by decide +kernel
theorem d2_1 : decode jdk_30_method_1_code 1 = .ok (.invokespecial 1, 3) := by decide +kernel
theorem d2_4 : decode jdk_30_method_1_code 4 = .ok (.return_, 1) := by decide +kernel
theorem pn_0 : plainName "java/lang/Record" = true := by first | (simp [plainName, overriddenIn]; done) | decide +kernel
theorem ef_2 (m : MethodId) (x0 : Addr) : entryFrame m #[(.ref x0)] 1 = mkF m 0 #[.val (.ref x0)] [] := by first | (simp [entryFrame, mkF, argsToLocals, Value.category]; done) | rfl
def Q2 (Z : State) (x0 : Addr) (h0 : Heap) (n0 : Nat) (v : Option Value) (h : Heap) (L : List Loc) : Prop := v = none ∧ Fr n0 L ∧ h = h0
set_option maxRecDepth 65536 in
set_option maxHeartbeats 40000000 in
theorem rm2 (l : Launch) (Z : State) (a0 : Array Value) (hw : ∀ d ∈ tables_1, d.before a0 Z = true) (ws : List Jvm.Cond) (x0 : Addr) (h0 : Heap) (n0 : Nat) (Z0 : n0 ≤ h0.size) :
    MetFree l (⟨"java/lang/Record", "<init>", "()V"⟩ : MethodName) (head1 (Jvm.Cond.code (⟨"java/lang/Record", "<init>", "()V"⟩ : MethodName) jdk_30_method_1_code 1 (none) :: ws) ({ frames := 1, cells := 0, slots := 0, locals := 12 } : Room)) (fun a U => a = #[(.ref x0)] ∧ Z.Warmed39 U.vm ∧ U.heap = h0) (fun _ _ _ _ _ => True) (fun _ U o U' => ∃ v L, o = .returned v ∧ Q2 Z x0 h0 n0 v U'.heap L ∧ FrameEnd U o U' L ({ frames := 1, cells := 0, slots := 0, locals := 12 } : Room).cells ({ frames := 1, cells := 0, slots := 0, locals := 12 } : Room).slots) := by
  refine MetFree.of_bodySF (plainFor_of_name pn_0) hisR ?_
  intro p e s m args below meth c s₁ Bd hml0 hP hK0
  obtain ⟨rfl, hZ, hh⟩ := hP
  have hx := Bd.exec
  have hby := Bd.bytes
  have hml : c.maxLocals = 1 := hml0
  have hown : s.vm.findClass "java/lang/Record" = some m.cls := findClass_of_methodNamed Bd.named
  have hnm := (name_of_methodNamed Bd.named Bd.method).1
  have hret : meth.sig.returnType = none := Bd.returns
  have hlk : meth.locks = false := Bd.notSynchronized
  have X0 : Stand p l e ({ frames := 1, cells := 0, slots := 0, locals := 12 } : Room) s m #[(.ref x0)] below meth c s₁ [] 0 0 := Stand.of_body Bd
  have e0 : s₁.heap = h0 := by rw [← hh, Bd.state]; rfl
  have N0 := Fr.nil n0
  have pre0 : ∀ t, Steps p.tables e below (s₁.setTop (mkF m 0 #[.val (.ref x0)] [])) t → Steps p.tables e below (s₁.setTop (entryFrame m #[(.ref x0)] 1)) t := fun t k => castTop (ef_2 m x0) k
  obtain ⟨T1, X1, e1, st1⟩ := initO X0 hx hZ hown (hw _ (List.mem_of_getElem? (i := 11) rfl)) (hw _ (List.mem_of_getElem? (i := 12) rfl)) (hw _ (List.mem_of_getElem? (i := 13) rfl)) e0 (g := (mkF m 1 #[.val (.ref x0)] [(.ref x0)])) rfl (by rw [hml]; rfl) rfl (hb hby d2_1) (by decide) (W := 0) (by show 2 * 0 + _ ≤ _; exact Nat.le_of_eq rfl) (by decide)
  obtain ⟨fs, hr, hrun, hended, hW, hsame⟩ := X1.leave (v := none) (fun _ => rfl)
  refine ⟨_, _, pre0 _ ?_, hrun, hended, _, _, rfl, ?_, ⟨_, rfl⟩, hW, hsame.mono (by decide) (by decide)⟩
  · show Steps p.tables e below (s₁.setTop (mkF m 0 #[.val (.ref x0)] [])) _
    refine XS.aloadN X0.here hx rfl (hb hby d2_0) rfl rfl ?_
    show Steps p.tables e below (s₁.setTop (mkF m 1 #[.val (.ref x0)] [(.ref x0)])) _
    refine st1 _ ?_
    show Steps p.tables e below (T1.setTop (mkF m 4 #[.val (.ref x0)] [])) _
    exact X1.returnOut hx hret (hb hby d2_4) hr
  · show Q2 Z x0 h0 n0 _ T1.heap _
    rw [e1]
    exact ⟨rfl, N0, rfl⟩
theorem pd_0 : parseMethodDescriptor "()V" = some ⟨[], none⟩ := by decide +kernel
-- body 1: com/example/pulseline/pulseline/PacketFates.<init>:(JJJJJJ)V
theorem d1_0 : decode prog_15_method_1_code 0 = .ok (.aload_n 0, 1) := by decide +kernel
theorem d1_1 : decode prog_15_method_1_code 1 = .ok (.invokespecial 1, 3) := by decide +kernel
theorem d1_4 : decode prog_15_method_1_code 4 = .ok (.aload_n 0, 1) := by decide +kernel
theorem d1_5 : decode prog_15_method_1_code 5 = .ok (.lload_n 1, 1) := by decide +kernel
theorem d1_6 : decode prog_15_method_1_code 6 = .ok (.putfield 7, 3) := by decide +kernel
theorem d1_9 : decode prog_15_method_1_code 9 = .ok (.aload_n 0, 1) := by decide +kernel
theorem d1_10 : decode prog_15_method_1_code 10 = .ok (.lload_n 3, 1) := by decide +kernel
theorem d1_11 : decode prog_15_method_1_code 11 = .ok (.putfield 13, 3) := by decide +kernel
theorem d1_14 : decode prog_15_method_1_code 14 = .ok (.aload_n 0, 1) := by decide +kernel
theorem d1_15 : decode prog_15_method_1_code 15 = .ok (.lload 5, 2) := by decide +kernel
theorem d1_17 : decode prog_15_method_1_code 17 = .ok (.putfield 16, 3) := by decide +kernel
theorem d1_20 : decode prog_15_method_1_code 20 = .ok (.aload_n 0, 1) := by decide +kernel
theorem d1_21 : decode prog_15_method_1_code 21 = .ok (.lload 7, 2) := by decide +kernel
theorem d1_23 : decode prog_15_method_1_code 23 = .ok (.putfield 19, 3) := by decide +kernel
theorem d1_26 : decode prog_15_method_1_code 26 = .ok (.aload_n 0, 1) := by decide +kernel
theorem d1_27 : decode prog_15_method_1_code 27 = .ok (.lload 9, 2) := by decide +kernel
theorem d1_29 : decode prog_15_method_1_code 29 = .ok (.putfield 22, 3) := by decide +kernel
theorem d1_32 : decode prog_15_method_1_code 32 = .ok (.aload_n 0, 1) := by decide +kernel
theorem d1_33 : decode prog_15_method_1_code 33 = .ok (.lload 11, 2) := by decide +kernel
theorem d1_35 : decode prog_15_method_1_code 35 = .ok (.putfield 25, 3) := by decide +kernel
theorem d1_38 : decode prog_15_method_1_code 38 = .ok (.return_, 1) := by decide +kernel
theorem pn_1 : plainName "com/example/pulseline/pulseline/PacketFates" = true := by first | (simp [plainName, overriddenIn]; done) | decide +kernel
theorem ef_1 (m : MethodId) (x0 : Addr) (x1 : Int64) (x2 : Int64) (x3 : Int64) (x4 : Int64) (x5 : Int64) (x6 : Int64) : entryFrame m #[(.ref x0), (.long x1), (.long x2), (.long x3), (.long x4), (.long x5), (.long x6)] 13 = mkF m 0 #[.val (.ref x0), .val (.long x1), .second, .val (.long x2), .second, .val (.long x3), .second, .val (.long x4), .second, .val (.long x5), .second, .val (.long x6), .second] [] := by first | (simp [entryFrame, mkF, argsToLocals, Value.category]; done) | rfl
def Q1 (Z : State) (x0 : Addr) (x1 : Int64) (x2 : Int64) (x3 : Int64) (x4 : Int64) (x5 : Int64) (x6 : Int64) (u_received_x0 : Value) (u_forwardLost_x0 : Value) (u_backwardLost_x0 : Value) (u_directionUnknown_x0 : Value) (u_forwardDuplicates_x0 : Value) (u_backwardDuplicates_x0 : Value) (h0 : Heap) (n0 : Nat) (v : Option Value) (h : Heap) (L : List Loc) : Prop := v = none ∧ Fr n0 L ∧ Keep h0 h [x0] ∧ Exa Z h x0 "com/example/pulseline/pulseline/PacketFates" ∧ Fld Z h x0 "com/example/pulseline/pulseline/PacketFates" "received" "J" (.long x1) ∧ Fld Z h x0 "com/example/pulseline/pulseline/PacketFates" "forwardLost" "J" (.long x2) ∧ Fld Z h x0 "com/example/pulseline/pulseline/PacketFates" "backwardLost" "J" (.long x3) ∧ Fld Z h x0 "com/example/pulseline/pulseline/PacketFates" "directionUnknown" "J" (.long x4) ∧ Fld Z h x0 "com/example/pulseline/pulseline/PacketFates" "forwardDuplicates" "J" (.long x5) ∧ Fld Z h x0 "com/example/pulseline/pulseline/PacketFates" "backwardDuplicates" "J" (.long x6)
set_option maxRecDepth 65536 in
set_option maxHeartbeats 40000000 in
theorem rm1 (l : Launch) (Z : State) (a0 : Array Value) (hw : ∀ d ∈ tables_1, d.before a0 Z = true) (ws : List Jvm.Cond) (x0 : Addr) (x1 : Int64) (x2 : Int64) (x3 : Int64) (x4 : Int64) (x5 : Int64) (x6 : Int64) (u_received_x0 : Value) (u_forwardLost_x0 : Value) (u_backwardLost_x0 : Value) (u_directionUnknown_x0 : Value) (u_forwardDuplicates_x0 : Value) (u_backwardDuplicates_x0 : Value) (h0 : Heap) (n0 : Nat) (Z0 : n0 ≤ h0.size) (E_x0 : Exa Z h0 x0 "com/example/pulseline/pulseline/PacketFates") (g_x0 : n0 ≤ x0) (F_x0_received : Fld Z h0 x0 "com/example/pulseline/pulseline/PacketFates" "received" "J" u_received_x0) (F_x0_forwardLost : Fld Z h0 x0 "com/example/pulseline/pulseline/PacketFates" "forwardLost" "J" u_forwardLost_x0) (F_x0_backwardLost : Fld Z h0 x0 "com/example/pulseline/pulseline/PacketFates" "backwardLost" "J" u_backwardLost_x0) (F_x0_directionUnknown : Fld Z h0 x0 "com/example/pulseline/pulseline/PacketFates" "directionUnknown" "J" u_directionUnknown_x0) (F_x0_forwardDuplicates : Fld Z h0 x0 "com/example/pulseline/pulseline/PacketFates" "forwardDuplicates" "J" u_forwardDuplicates_x0) (F_x0_backwardDuplicates : Fld Z h0 x0 "com/example/pulseline/pulseline/PacketFates" "backwardDuplicates" "J" u_backwardDuplicates_x0) :
    MetFree l (⟨"com/example/pulseline/pulseline/PacketFates", "<init>", "(JJJJJJ)V"⟩ : MethodName) (head1 (Jvm.Cond.code (⟨"com/example/pulseline/pulseline/PacketFates", "<init>", "(JJJJJJ)V"⟩ : MethodName) prog_15_method_1_code 13 (none) :: ws) ({ frames := 2, cells := 0, slots := 0, locals := 24 } : Room)) (fun a U => a = #[(.ref x0), (.long x1), (.long x2), (.long x3), (.long x4), (.long x5), (.long x6)] ∧ Z.Warmed39 U.vm ∧ U.heap = h0) (fun _ _ _ _ _ => True) (fun _ U o U' => ∃ v L, o = .returned v ∧ Q1 Z x0 x1 x2 x3 x4 x5 x6 u_received_x0 u_forwardLost_x0 u_backwardLost_x0 u_directionUnknown_x0 u_forwardDuplicates_x0 u_backwardDuplicates_x0 h0 n0 v U'.heap L ∧ FrameEnd U o U' L ({ frames := 2, cells := 0, slots := 0, locals := 24 } : Room).cells ({ frames := 2, cells := 0, slots := 0, locals := 24 } : Room).slots) := by
  refine MetFree.of_bodySF (plainFor_of_name pn_1) hisR ?_
  intro p e s m args below meth c s₁ Bd hml0 hP hK0
  obtain ⟨rfl, hZ, hh⟩ := hP
  have hx := Bd.exec
  have hby := Bd.bytes
  have hml : c.maxLocals = 13 := hml0
  have hown : s.vm.findClass "com/example/pulseline/pulseline/PacketFates" = some m.cls := findClass_of_methodNamed Bd.named
  have hnm := (name_of_methodNamed Bd.named Bd.method).1
  have hret : meth.sig.returnType = none := Bd.returns
  have hlk : meth.locks = false := Bd.notSynchronized
  have X0 : Stand p l e ({ frames := 2, cells := 0, slots := 0, locals := 24 } : Room) s m #[(.ref x0), (.long x1), (.long x2), (.long x3), (.long x4), (.long x5), (.long x6)] below meth c s₁ [] 0 0 := Stand.of_body Bd
  have e0 : s₁.heap = h0 := by rw [← hh, Bd.state]; rfl
  have N0 := Fr.nil n0
  have pre0 : ∀ t, Steps p.tables e below (s₁.setTop (mkF m 0 #[.val (.ref x0), .val (.long x1), .second, .val (.long x2), .second, .val (.long x3), .second, .val (.long x4), .second, .val (.long x5), .second, .val (.long x6), .second] [])) t → Steps p.tables e below (s₁.setTop (entryFrame m #[(.ref x0), (.long x1), (.long x2), (.long x3), (.long x4), (.long x5), (.long x6)] 13)) t := fun t k => castTop (ef_1 m x0 x1 x2 x3 x4 x5 x6) k
  obtain ⟨_, _, ⟨T1, L1, k1, n1⟩, -, X1, ⟨Lc1, hQ1, l1, y1, z1⟩, st1⟩ := X0.specialBack hx (y := (⟨"java/lang/Record", "<init>", "()V"⟩ : MethodName)) rfl hown (mvT hZ (hw _ (List.mem_of_getElem? (i := 6) rfl))) (mvT hZ (hw _ (List.mem_of_getElem? (i := 7) rfl))) (mvT hZ (hw _ (List.mem_of_getElem? (i := 10) rfl))) (by decide) (backOf (W := 0) (rm2 l Z a0 hw [] x0 h0 n0 Z0) hZ (hw _ (List.mem_of_getElem? (i := 10) rfl)) (hw _ (List.mem_of_getElem? (i := 9) rfl)) (by decide) (by decide)) (g := (mkF m 1 #[.val (.ref x0), .val (.long x1), .second, .val (.long x2), .second, .val (.long x3), .second, .val (.long x4), .second, .val (.long x5), .second, .val (.long x6), .second] [(.ref x0)])) rfl (by rw [hml]; rfl) (Steps.refl _) (a := x0) (argsL := []) (rest := []) (lenOf pd_0 rfl) rfl (by show 2 * 0 + _ ≤ _; exact Nat.le_of_eq rfl) (hb hby d1_1) (fun _ _ => ⟨rfl, e0, (by decide : 0 + 0 ≤ _), (by decide : 0 + 0 ≤ _)⟩)
  dsimp only [Pt.U, Pt.locs, Pt.cells, Pt.slots] at X1 l1 y1 z1 st1 hQ1
  subst l1 y1 z1
  obtain ⟨rfl, Nq1, e1⟩ := hQ1
  have N1 := Fr.app N0 Nq1
  obtain ⟨T2, h2, X2, e2, W2, st2⟩ := putF X1 hx hZ hown (host := "") (Or.inl (hw _ (List.mem_of_getElem? (i := 14) rfl))) Via.refl e1 F_x0_received E_x0 (Or.inr ⟨(hw _ (List.mem_of_getElem? (i := 15) rfl)), rfl, hnm⟩) (hw _ (List.mem_of_getElem? (i := 1) rfl)) (ty := .long) (by decide) rfl rfl (g := (mkF m 6 #[.val (.ref x0), .val (.long x1), .second, .val (.long x2), .second, .val (.long x3), .second, .val (.long x4), .second, .val (.long x5), .second, .val (.long x6), .second] [(.long x1), (.ref x0)])) rfl rfl (hb hby d1_6)
  have N2 := Fr.snoc X2 N1 g_x0
  have Z2 : n0 ≤ h2.size := Nat.le_trans Z0 (Keep.of_wr W2).1
  have K2 : Keep h0 h2 [x0] := Keep.wr (Keep.refl h0 [x0]) W2 (Or.inl (List.mem_of_getElem? (i := 0) rfl))
  have P3 := E_x0.wr W2
  have P4 := F_x0_received.same W2
  have P5 := F_x0_forwardLost.other W2 (Or.inr (slot_ne (Or.inr (hw _ (List.mem_of_getElem? (i := 17) rfl))) (Or.inr (hw _ (List.mem_of_getElem? (i := 15) rfl))) (by decide) (t := .long) (t' := .long) (by decide) (by decide)))
  have P6 := F_x0_backwardLost.other W2 (Or.inr (slot_ne (Or.inr (hw _ (List.mem_of_getElem? (i := 19) rfl))) (Or.inr (hw _ (List.mem_of_getElem? (i := 15) rfl))) (by decide) (t := .long) (t' := .long) (by decide) (by decide)))
  have P7 := F_x0_directionUnknown.other W2 (Or.inr (slot_ne (Or.inr (hw _ (List.mem_of_getElem? (i := 21) rfl))) (Or.inr (hw _ (List.mem_of_getElem? (i := 15) rfl))) (by decide) (t := .long) (t' := .long) (by decide) (by decide)))
  have P8 := F_x0_forwardDuplicates.other W2 (Or.inr (slot_ne (Or.inr (hw _ (List.mem_of_getElem? (i := 23) rfl))) (Or.inr (hw _ (List.mem_of_getElem? (i := 15) rfl))) (by decide) (t := .long) (t' := .long) (by decide) (by decide)))
  have P9 := F_x0_backwardDuplicates.other W2 (Or.inr (slot_ne (Or.inr (hw _ (List.mem_of_getElem? (i := 25) rfl))) (Or.inr (hw _ (List.mem_of_getElem? (i := 15) rfl))) (by decide) (t := .long) (t' := .long) (by decide) (by decide)))
  obtain ⟨T10, h10, X10, e10, W10, st10⟩ := putF X2 hx hZ hown (host := "") (Or.inl (hw _ (List.mem_of_getElem? (i := 16) rfl))) Via.refl e2 P5 P3 (Or.inr ⟨(hw _ (List.mem_of_getElem? (i := 17) rfl)), rfl, hnm⟩) (hw _ (List.mem_of_getElem? (i := 1) rfl)) (ty := .long) (by decide) rfl rfl (g := (mkF m 11 #[.val (.ref x0), .val (.long x1), .second, .val (.long x2), .second, .val (.long x3), .second, .val (.long x4), .second, .val (.long x5), .second, .val (.long x6), .second] [(.long x2), (.ref x0)])) rfl rfl (hb hby d1_11)
  have N10 := Fr.snoc X10 N2 g_x0
  have Z10 : n0 ≤ h10.size := Nat.le_trans Z2 (Keep.of_wr W10).1
  have K10 : Keep h0 h10 [x0] := Keep.wr K2 W10 (Or.inl (List.mem_of_getElem? (i := 0) rfl))
  have P11 := P3.wr W10
  have P12 := P4.other W10 (Or.inr (slot_ne (Or.inr (hw _ (List.mem_of_getElem? (i := 15) rfl))) (Or.inr (hw _ (List.mem_of_getElem? (i := 17) rfl))) (by decide) (t := .long) (t' := .long) (by decide) (by decide)))
  have P13 := P5.same W10
  have P14 := P6.other W10 (Or.inr (slot_ne (Or.inr (hw _ (List.mem_of_getElem? (i := 19) rfl))) (Or.inr (hw _ (List.mem_of_getElem? (i := 17) rfl))) (by decide) (t := .long) (t' := .long) (by decide) (by decide)))
  have P15 := P7.other W10 (Or.inr (slot_ne (Or.inr (hw _ (List.mem_of_getElem? (i := 21) rfl))) (Or.inr (hw _ (List.mem_of_getElem? (i := 17) rfl))) (by decide) (t := .long) (t' := .long) (by decide) (by decide)))
  have P16 := P8.other W10 (Or.inr (slot_ne (Or.inr (hw _ (List.mem_of_getElem? (i := 23) rfl))) (Or.inr (hw _ (List.mem_of_getElem? (i := 17) rfl))) (by decide) (t := .long) (t' := .long) (by decide) (by decide)))
  have P17 := P9.other W10 (Or.inr (slot_ne (Or.inr (hw _ (List.mem_of_getElem? (i := 25) rfl))) (Or.inr (hw _ (List.mem_of_getElem? (i := 17) rfl))) (by decide) (t := .long) (t' := .long) (by decide) (by decide)))
  obtain ⟨T18, h18, X18, e18, W18, st18⟩ := putF X10 hx hZ hown (host := "") (Or.inl (hw _ (List.mem_of_getElem? (i := 18) rfl))) Via.refl e10 P14 P11 (Or.inr ⟨(hw _ (List.mem_of_getElem? (i := 19) rfl)), rfl, hnm⟩) (hw _ (List.mem_of_getElem? (i := 1) rfl)) (ty := .long) (by decide) rfl rfl (g := (mkF m 17 #[.val (.ref x0), .val (.long x1), .second, .val (.long x2), .second, .val (.long x3), .second, .val (.long x4), .second, .val (.long x5), .second, .val (.long x6), .second] [(.long x3), (.ref x0)])) rfl rfl (hb hby d1_17)
  have N18 := Fr.snoc X18 N10 g_x0
  have Z18 : n0 ≤ h18.size := Nat.le_trans Z10 (Keep.of_wr W18).1
  have K18 : Keep h0 h18 [x0] := Keep.wr K10 W18 (Or.inl (List.mem_of_getElem? (i := 0) rfl))
  have P19 := P11.wr W18
  have P20 := P12.other W18 (Or.inr (slot_ne (Or.inr (hw _ (List.mem_of_getElem? (i := 15) rfl))) (Or.inr (hw _ (List.mem_of_getElem? (i := 19) rfl))) (by decide) (t := .long) (t' := .long) (by decide) (by decide)))
  have P21 := P13.other W18 (Or.inr (slot_ne (Or.inr (hw _ (List.mem_of_getElem? (i := 17) rfl))) (Or.inr (hw _ (List.mem_of_getElem? (i := 19) rfl))) (by decide) (t := .long) (t' := .long) (by decide) (by decide)))
  have P22 := P14.same W18
  have P23 := P15.other W18 (Or.inr (slot_ne (Or.inr (hw _ (List.mem_of_getElem? (i := 21) rfl))) (Or.inr (hw _ (List.mem_of_getElem? (i := 19) rfl))) (by decide) (t := .long) (t' := .long) (by decide) (by decide)))
  have P24 := P16.other W18 (Or.inr (slot_ne (Or.inr (hw _ (List.mem_of_getElem? (i := 23) rfl))) (Or.inr (hw _ (List.mem_of_getElem? (i := 19) rfl))) (by decide) (t := .long) (t' := .long) (by decide) (by decide)))
  have P25 := P17.other W18 (Or.inr (slot_ne (Or.inr (hw _ (List.mem_of_getElem? (i := 25) rfl))) (Or.inr (hw _ (List.mem_of_getElem? (i := 19) rfl))) (by decide) (t := .long) (t' := .long) (by decide) (by decide)))
  obtain ⟨T26, h26, X26, e26, W26, st26⟩ := putF X18 hx hZ hown (host := "") (Or.inl (hw _ (List.mem_of_getElem? (i := 20) rfl))) Via.refl e18 P23 P19 (Or.inr ⟨(hw _ (List.mem_of_getElem? (i := 21) rfl)), rfl, hnm⟩) (hw _ (List.mem_of_getElem? (i := 1) rfl)) (ty := .long) (by decide) rfl rfl (g := (mkF m 23 #[.val (.ref x0), .val (.long x1), .second, .val (.long x2), .second, .val (.long x3), .second, .val (.long x4), .second, .val (.long x5), .second, .val (.long x6), .second] [(.long x4), (.ref x0)])) rfl rfl (hb hby d1_23)
  have N26 := Fr.snoc X26 N18 g_x0
  have Z26 : n0 ≤ h26.size := Nat.le_trans Z18 (Keep.of_wr W26).1
  have K26 : Keep h0 h26 [x0] := Keep.wr K18 W26 (Or.inl (List.mem_of_getElem? (i := 0) rfl))
  have P27 := P19.wr W26
  have P28 := P20.other W26 (Or.inr (slot_ne (Or.inr (hw _ (List.mem_of_getElem? (i := 15) rfl))) (Or.inr (hw _ (List.mem_of_getElem? (i := 21) rfl))) (by decide) (t := .long) (t' := .long) (by decide) (by decide)))
  have P29 := P21.other W26 (Or.inr (slot_ne (Or.inr (hw _ (List.mem_of_getElem? (i := 17) rfl))) (Or.inr (hw _ (List.mem_of_getElem? (i := 21) rfl))) (by decide) (t := .long) (t' := .long) (by decide) (by decide)))
  have P30 := P22.other W26 (Or.inr (slot_ne (Or.inr (hw _ (List.mem_of_getElem? (i := 19) rfl))) (Or.inr (hw _ (List.mem_of_getElem? (i := 21) rfl))) (by decide) (t := .long) (t' := .long) (by decide) (by decide)))
  have P31 := P23.same W26
  have P32 := P24.other W26 (Or.inr (slot_ne (Or.inr (hw _ (List.mem_of_getElem? (i := 23) rfl))) (Or.inr (hw _ (List.mem_of_getElem? (i := 21) rfl))) (by decide) (t := .long) (t' := .long) (by decide) (by decide)))
  have P33 := P25.other W26 (Or.inr (slot_ne (Or.inr (hw _ (List.mem_of_getElem? (i := 25) rfl))) (Or.inr (hw _ (List.mem_of_getElem? (i := 21) rfl))) (by decide) (t := .long) (t' := .long) (by decide) (by decide)))
  obtain ⟨T34, h34, X34, e34, W34, st34⟩ := putF X26 hx hZ hown (host := "") (Or.inl (hw _ (List.mem_of_getElem? (i := 22) rfl))) Via.refl e26 P32 P27 (Or.inr ⟨(hw _ (List.mem_of_getElem? (i := 23) rfl)), rfl, hnm⟩) (hw _ (List.mem_of_getElem? (i := 1) rfl)) (ty := .long) (by decide) rfl rfl (g := (mkF m 29 #[.val (.ref x0), .val (.long x1), .second, .val (.long x2), .second, .val (.long x3), .second, .val (.long x4), .second, .val (.long x5), .second, .val (.long x6), .second] [(.long x5), (.ref x0)])) rfl rfl (hb hby d1_29)
  have N34 := Fr.snoc X34 N26 g_x0
  have Z34 : n0 ≤ h34.size := Nat.le_trans Z26 (Keep.of_wr W34).1
  have K34 : Keep h0 h34 [x0] := Keep.wr K26 W34 (Or.inl (List.mem_of_getElem? (i := 0) rfl))
  have P35 := P27.wr W34
  have P36 := P28.other W34 (Or.inr (slot_ne (Or.inr (hw _ (List.mem_of_getElem? (i := 15) rfl))) (Or.inr (hw _ (List.mem_of_getElem? (i := 23) rfl))) (by decide) (t := .long) (t' := .long) (by decide) (by decide)))
  have P37 := P29.other W34 (Or.inr (slot_ne (Or.inr (hw _ (List.mem_of_getElem? (i := 17) rfl))) (Or.inr (hw _ (List.mem_of_getElem? (i := 23) rfl))) (by decide) (t := .long) (t' := .long) (by decide) (by decide)))
  have P38 := P30.other W34 (Or.inr (slot_ne (Or.inr (hw _ (List.mem_of_getElem? (i := 19) rfl))) (Or.inr (hw _ (List.mem_of_getElem? (i := 23) rfl))) (by decide) (t := .long) (t' := .long) (by decide) (by decide)))
  have P39 := P31.other W34 (Or.inr (slot_ne (Or.inr (hw _ (List.mem_of_getElem? (i := 21) rfl))) (Or.inr (hw _ (List.mem_of_getElem? (i := 23) rfl))) (by decide) (t := .long) (t' := .long) (by decide) (by decide)))
  have P40 := P32.same W34
  have P41 := P33.other W34 (Or.inr (slot_ne (Or.inr (hw _ (List.mem_of_getElem? (i := 25) rfl))) (Or.inr (hw _ (List.mem_of_getElem? (i := 23) rfl))) (by decide) (t := .long) (t' := .long) (by decide) (by decide)))
  obtain ⟨T42, h42, X42, e42, W42, st42⟩ := putF X34 hx hZ hown (host := "") (Or.inl (hw _ (List.mem_of_getElem? (i := 24) rfl))) Via.refl e34 P41 P35 (Or.inr ⟨(hw _ (List.mem_of_getElem? (i := 25) rfl)), rfl, hnm⟩) (hw _ (List.mem_of_getElem? (i := 1) rfl)) (ty := .long) (by decide) rfl rfl (g := (mkF m 35 #[.val (.ref x0), .val (.long x1), .second, .val (.long x2), .second, .val (.long x3), .second, .val (.long x4), .second, .val (.long x5), .second, .val (.long x6), .second] [(.long x6), (.ref x0)])) rfl rfl (hb hby d1_35)
  have N42 := Fr.snoc X42 N34 g_x0
  have Z42 : n0 ≤ h42.size := Nat.le_trans Z34 (Keep.of_wr W42).1
  have K42 : Keep h0 h42 [x0] := Keep.wr K34 W42 (Or.inl (List.mem_of_getElem? (i := 0) rfl))
  have P43 := P35.wr W42
  have P44 := P36.other W42 (Or.inr (slot_ne (Or.inr (hw _ (List.mem_of_getElem? (i := 15) rfl))) (Or.inr (hw _ (List.mem_of_getElem? (i := 25) rfl))) (by decide) (t := .long) (t' := .long) (by decide) (by decide)))
  have P45 := P37.other W42 (Or.inr (slot_ne (Or.inr (hw _ (List.mem_of_getElem? (i := 17) rfl))) (Or.inr (hw _ (List.mem_of_getElem? (i := 25) rfl))) (by decide) (t := .long) (t' := .long) (by decide) (by decide)))
  have P46 := P38.other W42 (Or.inr (slot_ne (Or.inr (hw _ (List.mem_of_getElem? (i := 19) rfl))) (Or.inr (hw _ (List.mem_of_getElem? (i := 25) rfl))) (by decide) (t := .long) (t' := .long) (by decide) (by decide)))
  have P47 := P39.other W42 (Or.inr (slot_ne (Or.inr (hw _ (List.mem_of_getElem? (i := 21) rfl))) (Or.inr (hw _ (List.mem_of_getElem? (i := 25) rfl))) (by decide) (t := .long) (t' := .long) (by decide) (by decide)))
  have P48 := P40.other W42 (Or.inr (slot_ne (Or.inr (hw _ (List.mem_of_getElem? (i := 23) rfl))) (Or.inr (hw _ (List.mem_of_getElem? (i := 25) rfl))) (by decide) (t := .long) (t' := .long) (by decide) (by decide)))
  have P49 := P41.same W42
  obtain ⟨fs, hr, hrun, hended, hW, hsame⟩ := X42.leave (v := none) (fun _ => rfl)
  refine ⟨_, _, pre0 _ ?_, hrun, hended, _, _, rfl, ?_, ⟨_, rfl⟩, hW, hsame.mono (by decide) (by decide)⟩
  · show Steps p.tables e below (s₁.setTop (mkF m 0 #[.val (.ref x0), .val (.long x1), .second, .val (.long x2), .second, .val (.long x3), .second, .val (.long x4), .second, .val (.long x5), .second, .val (.long x6), .second] [])) _
    refine XS.aloadN X0.here hx rfl (hb hby d1_0) rfl rfl ?_
    show Steps p.tables e below (s₁.setTop (mkF m 1 #[.val (.ref x0), .val (.long x1), .second, .val (.long x2), .second, .val (.long x3), .second, .val (.long x4), .second, .val (.long x5), .second, .val (.long x6), .second] [(.ref x0)])) _
    refine st1.trans ?_
    show Steps p.tables e below (T1.setTop (mkF m 4 #[.val (.ref x0), .val (.long x1), .second, .val (.long x2), .second, .val (.long x3), .second, .val (.long x4), .second, .val (.long x5), .second, .val (.long x6), .second] [])) _
    refine XS.aloadN X1.here hx rfl (hb hby d1_4) rfl rfl ?_
    show Steps p.tables e below (T1.setTop (mkF m 5 #[.val (.ref x0), .val (.long x1), .second, .val (.long x2), .second, .val (.long x3), .second, .val (.long x4), .second, .val (.long x5), .second, .val (.long x6), .second] [(.ref x0)])) _
    refine XS.lloadN X1.here hx rfl (hb hby d1_5) rfl ?_
    show Steps p.tables e below (T1.setTop (mkF m 6 #[.val (.ref x0), .val (.long x1), .second, .val (.long x2), .second, .val (.long x3), .second, .val (.long x4), .second, .val (.long x5), .second, .val (.long x6), .second] [(.long x1), (.ref x0)])) _
    refine st2 _ ?_
    show Steps p.tables e below (T2.setTop (mkF m 9 #[.val (.ref x0), .val (.long x1), .second, .val (.long x2), .second, .val (.long x3), .second, .val (.long x4), .second, .val (.long x5), .second, .val (.long x6), .second] [])) _
    refine XS.aloadN X2.here hx rfl (hb hby d1_9) rfl rfl ?_
    show Steps p.tables e below (T2.setTop (mkF m 10 #[.val (.ref x0), .val (.long x1), .second, .val (.long x2), .second, .val (.long x3), .second, .val (.long x4), .second, .val (.long x5), .second, .val (.long x6), .second] [(.ref x0)])) _
    refine XS.lloadN X2.here hx rfl (hb hby d1_10) rfl ?_
    show Steps p.tables e below (T2.setTop (mkF m 11 #[.val (.ref x0), .val (.long x1), .second, .val (.long x2), .second, .val (.long x3), .second, .val (.long x4), .second, .val (.long x5), .second, .val (.long x6), .second] [(.long x2), (.ref x0)])) _
    refine st10 _ ?_
    show Steps p.tables e below (T10.setTop (mkF m 14 #[.val (.ref x0), .val (.long x1), .second, .val (.long x2), .second, .val (.long x3), .second, .val (.long x4), .second, .val (.long x5), .second, .val (.long x6), .second] [])) _
    refine XS.aloadN X10.here hx rfl (hb hby d1_14) rfl rfl ?_
    show Steps p.tables e below (T10.setTop (mkF m 15 #[.val (.ref x0), .val (.long x1), .second, .val (.long x2), .second, .val (.long x3), .second, .val (.long x4), .second, .val (.long x5), .second, .val (.long x6), .second] [(.ref x0)])) _
    refine XS.lload X10.here hx rfl (hb hby d1_15) rfl ?_
    show Steps p.tables e below (T10.setTop (mkF m 17 #[.val (.ref x0), .val (.long x1), .second, .val (.long x2), .second, .val (.long x3), .second, .val (.long x4), .second, .val (.long x5), .second, .val (.long x6), .second] [(.long x3), (.ref x0)])) _
    refine st18 _ ?_
    show Steps p.tables e below (T18.setTop (mkF m 20 #[.val (.ref x0), .val (.long x1), .second, .val (.long x2), .second, .val (.long x3), .second, .val (.long x4), .second, .val (.long x5), .second, .val (.long x6), .second] [])) _
    refine XS.aloadN X18.here hx rfl (hb hby d1_20) rfl rfl ?_
    show Steps p.tables e below (T18.setTop (mkF m 21 #[.val (.ref x0), .val (.long x1), .second, .val (.long x2), .second, .val (.long x3), .second, .val (.long x4), .second, .val (.long x5), .second, .val (.long x6), .second] [(.ref x0)])) _
    refine XS.lload X18.here hx rfl (hb hby d1_21) rfl ?_
    show Steps p.tables e below (T18.setTop (mkF m 23 #[.val (.ref x0), .val (.long x1), .second, .val (.long x2), .second, .val (.long x3), .second, .val (.long x4), .second, .val (.long x5), .second, .val (.long x6), .second] [(.long x4), (.ref x0)])) _
    refine st26 _ ?_
    show Steps p.tables e below (T26.setTop (mkF m 26 #[.val (.ref x0), .val (.long x1), .second, .val (.long x2), .second, .val (.long x3), .second, .val (.long x4), .second, .val (.long x5), .second, .val (.long x6), .second] [])) _
    refine XS.aloadN X26.here hx rfl (hb hby d1_26) rfl rfl ?_
    show Steps p.tables e below (T26.setTop (mkF m 27 #[.val (.ref x0), .val (.long x1), .second, .val (.long x2), .second, .val (.long x3), .second, .val (.long x4), .second, .val (.long x5), .second, .val (.long x6), .second] [(.ref x0)])) _
    refine XS.lload X26.here hx rfl (hb hby d1_27) rfl ?_
    show Steps p.tables e below (T26.setTop (mkF m 29 #[.val (.ref x0), .val (.long x1), .second, .val (.long x2), .second, .val (.long x3), .second, .val (.long x4), .second, .val (.long x5), .second, .val (.long x6), .second] [(.long x5), (.ref x0)])) _
    refine st34 _ ?_
    show Steps p.tables e below (T34.setTop (mkF m 32 #[.val (.ref x0), .val (.long x1), .second, .val (.long x2), .second, .val (.long x3), .second, .val (.long x4), .second, .val (.long x5), .second, .val (.long x6), .second] [])) _
    refine XS.aloadN X34.here hx rfl (hb hby d1_32) rfl rfl ?_
    show Steps p.tables e below (T34.setTop (mkF m 33 #[.val (.ref x0), .val (.long x1), .second, .val (.long x2), .second, .val (.long x3), .second, .val (.long x4), .second, .val (.long x5), .second, .val (.long x6), .second] [(.ref x0)])) _
    refine XS.lload X34.here hx rfl (hb hby d1_33) rfl ?_
    show Steps p.tables e below (T34.setTop (mkF m 35 #[.val (.ref x0), .val (.long x1), .second, .val (.long x2), .second, .val (.long x3), .second, .val (.long x4), .second, .val (.long x5), .second, .val (.long x6), .second] [(.long x6), (.ref x0)])) _
    refine st42 _ ?_
    show Steps p.tables e below (T42.setTop (mkF m 38 #[.val (.ref x0), .val (.long x1), .second, .val (.long x2), .second, .val (.long x3), .second, .val (.long x4), .second, .val (.long x5), .second, .val (.long x6), .second] [])) _
    exact X42.returnOut hx hret (hb hby d1_38) hr
  · show Q1 Z x0 x1 x2 x3 x4 x5 x6 u_received_x0 u_forwardLost_x0 u_backwardLost_x0 u_directionUnknown_x0 u_forwardDuplicates_x0 u_backwardDuplicates_x0 h0 n0 _ T42.heap _
    rw [e42]
    exact ⟨rfl, N42, K42, P43, P44, P45, P46, P47, P48, P49⟩
-- body 4: com/example/pulseline/pulseline/PacketFates.sent:()J
theorem d4_0 : decode prog_15_method_3_code 0 = .ok (.aload_n 0, 1) := by decide +kernel
theorem d4_1 : decode prog_15_method_3_code 1 = .ok (.getfield 7, 3) := by decide +kernel
theorem d4_4 : decode prog_15_method_3_code 4 = .ok (.aload_n 0, 1) := by decide +kernel
theorem d4_5 : decode prog_15_method_3_code 5 = .ok (.getfield 13, 3) := by decide +kernel
theorem d4_8 : decode prog_15_method_3_code 8 = .ok (.ladd, 1) := by decide +kernel
theorem d4_9 : decode prog_15_method_3_code 9 = .ok (.aload_n 0, 1) := by decide +kernel
theorem d4_10 : decode prog_15_method_3_code 10 = .ok (.getfield 16, 3) := by decide +kernel
theorem d4_13 : decode prog_15_method_3_code 13 = .ok (.ladd, 1) := by decide +kernel
theorem d4_14 : decode prog_15_method_3_code 14 = .ok (.aload_n 0, 1) := by decide +kernel
theorem d4_15 : decode prog_15_method_3_code 15 = .ok (.getfield 19, 3) := by decide +kernel
theorem d4_18 : decode prog_15_method_3_code 18 = .ok (.ladd, 1) := by decide +kernel
theorem d4_19 : decode prog_15_method_3_code 19 = .ok (.lreturn, 1) := by decide +kernel
theorem ef_4 (m : MethodId) (x0 : Addr) : entryFrame m #[(.ref x0)] 1 = mkF m 0 #[.val (.ref x0)] [] := by first | (simp [entryFrame, mkF, argsToLocals, Value.category]; done) | rfl
def f4 (w_received_x0 : Int64) (w_forwardLost_x0 : Int64) (w_backwardLost_x0 : Int64) (w_directionUnknown_x0 : Int64) : Int64 := (((w_received_x0 + w_forwardLost_x0) + w_backwardLost_x0) + w_directionUnknown_x0)
def Q4 (Z : State) (x0 : Addr) (w_received_x0 : Int64) (w_forwardLost_x0 : Int64) (w_backwardLost_x0 : Int64) (w_directionUnknown_x0 : Int64) (h0 : Heap) (n0 : Nat) (v : Option Value) (h : Heap) (L : List Loc) : Prop := v = some (.long (f4 w_received_x0 w_forwardLost_x0 w_backwardLost_x0 w_directionUnknown_x0)) ∧ Fr n0 L ∧ h = h0
set_option maxRecDepth 65536 in
set_option maxHeartbeats 40000000 in
theorem rm4 (l : Launch) (Z : State) (a0 : Array Value) (hw : ∀ d ∈ tables_1, d.before a0 Z = true) (ws : List Jvm.Cond) (x0 : Addr) (w_received_x0 : Int64) (w_forwardLost_x0 : Int64) (w_backwardLost_x0 : Int64) (w_directionUnknown_x0 : Int64) (h0 : Heap) (n0 : Nat) (Z0 : n0 ≤ h0.size) (F_x0_received : Fld Z h0 x0 "com/example/pulseline/pulseline/PacketFates" "received" "J" (.long w_received_x0)) (F_x0_forwardLost : Fld Z h0 x0 "com/example/pulseline/pulseline/PacketFates" "forwardLost" "J" (.long w_forwardLost_x0)) (F_x0_backwardLost : Fld Z h0 x0 "com/example/pulseline/pulseline/PacketFates" "backwardLost" "J" (.long w_backwardLost_x0)) (F_x0_directionUnknown : Fld Z h0 x0 "com/example/pulseline/pulseline/PacketFates" "directionUnknown" "J" (.long w_directionUnknown_x0)) :
    MetFree l (⟨"com/example/pulseline/pulseline/PacketFates", "sent", "()J"⟩ : MethodName) (head1 (Jvm.Cond.code (⟨"com/example/pulseline/pulseline/PacketFates", "sent", "()J"⟩ : MethodName) prog_15_method_3_code 1 (some .long) :: ws) ({ frames := 0, cells := 0, slots := 0, locals := 0 } : Room)) (fun a U => a = #[(.ref x0)] ∧ Z.Warmed39 U.vm ∧ U.heap = h0) (fun _ _ _ _ _ => True) (fun _ U o U' => ∃ v L, o = .returned v ∧ Q4 Z x0 w_received_x0 w_forwardLost_x0 w_backwardLost_x0 w_directionUnknown_x0 h0 n0 v U'.heap L ∧ FrameEnd U o U' L ({ frames := 0, cells := 0, slots := 0, locals := 0 } : Room).cells ({ frames := 0, cells := 0, slots := 0, locals := 0 } : Room).slots) := by
  refine MetFree.of_bodySF (plainFor_of_name pn_1) hisR ?_
  intro p e s m args below meth c s₁ Bd hml0 hP hK0
  obtain ⟨rfl, hZ, hh⟩ := hP
  have hx := Bd.exec
  have hby := Bd.bytes
  have hml : c.maxLocals = 1 := hml0
  have hown : s.vm.findClass "com/example/pulseline/pulseline/PacketFates" = some m.cls := findClass_of_methodNamed Bd.named
  have hnm := (name_of_methodNamed Bd.named Bd.method).1
  have hret : meth.sig.returnType = some .long := Bd.returns
  have hlk : meth.locks = false := Bd.notSynchronized
  have X0 : Stand p l e ({ frames := 0, cells := 0, slots := 0, locals := 0 } : Room) s m #[(.ref x0)] below meth c s₁ [] 0 0 := Stand.of_body Bd
  have e0 : s₁.heap = h0 := by rw [← hh, Bd.state]; rfl
  have N0 := Fr.nil n0
  have pre0 : ∀ t, Steps p.tables e below (s₁.setTop (mkF m 0 #[.val (.ref x0)] [])) t → Steps p.tables e below (s₁.setTop (entryFrame m #[(.ref x0)] 1)) t := fun t k => castTop (ef_4 m x0) k
  obtain ⟨T1, X1, e1, st1⟩ := getF X0 hx hZ hown (host := "") (Or.inl (hw _ (List.mem_of_getElem? (i := 14) rfl))) Via.refl e0 F_x0_received (g := (mkF m 1 #[.val (.ref x0)] [(.ref x0)])) rfl rfl (hb hby d4_1)
  obtain ⟨T2, X2, e2, st2⟩ := getF X1 hx hZ hown (host := "") (Or.inl (hw _ (List.mem_of_getElem? (i := 16) rfl))) Via.refl e1 F_x0_forwardLost (g := (mkF m 5 #[.val (.ref x0)] [(.ref x0), (.long w_received_x0)])) rfl rfl (hb hby d4_5)
  obtain ⟨T3, X3, e3, st3⟩ := getF X2 hx hZ hown (host := "") (Or.inl (hw _ (List.mem_of_getElem? (i := 18) rfl))) Via.refl e2 F_x0_backwardLost (g := (mkF m 10 #[.val (.ref x0)] [(.ref x0), (.long (w_received_x0 + w_forwardLost_x0))])) rfl rfl (hb hby d4_10)
  obtain ⟨T4, X4, e4, st4⟩ := getF X3 hx hZ hown (host := "") (Or.inl (hw _ (List.mem_of_getElem? (i := 20) rfl))) Via.refl e3 F_x0_directionUnknown (g := (mkF m 15 #[.val (.ref x0)] [(.ref x0), (.long ((w_received_x0 + w_forwardLost_x0) + w_backwardLost_x0))])) rfl rfl (hb hby d4_15)
  obtain ⟨fs, hr, hrun, hended, hW, hsame⟩ := X4.leave (v := some (.long (((w_received_x0 + w_forwardLost_x0) + w_backwardLost_x0) + w_directionUnknown_x0))) (fun h => by rw [hret] at h; cases h)
  refine ⟨_, _, pre0 _ ?_, hrun, hended, _, _, rfl, ?_, ⟨_, rfl⟩, hW, hsame.mono (by decide) (by decide)⟩
  · show Steps p.tables e below (s₁.setTop (mkF m 0 #[.val (.ref x0)] [])) _
    refine XS.aloadN X0.here hx rfl (hb hby d4_0) rfl rfl ?_
    show Steps p.tables e below (s₁.setTop (mkF m 1 #[.val (.ref x0)] [(.ref x0)])) _
    refine st1 _ ?_
    show Steps p.tables e below (T1.setTop (mkF m 4 #[.val (.ref x0)] [(.long w_received_x0)])) _
    refine XS.aloadN X1.here hx rfl (hb hby d4_4) rfl rfl ?_
    show Steps p.tables e below (T1.setTop (mkF m 5 #[.val (.ref x0)] [(.ref x0), (.long w_received_x0)])) _
    refine st2 _ ?_
    show Steps p.tables e below (T2.setTop (mkF m 8 #[.val (.ref x0)] [(.long w_forwardLost_x0), (.long w_received_x0)])) _
    refine XS.ladd X2.here hx rfl (hb hby d4_8) rfl ?_
    show Steps p.tables e below (T2.setTop (mkF m 9 #[.val (.ref x0)] [(.long (w_received_x0 + w_forwardLost_x0))])) _
    refine XS.aloadN X2.here hx rfl (hb hby d4_9) rfl rfl ?_
    show Steps p.tables e below (T2.setTop (mkF m 10 #[.val (.ref x0)] [(.ref x0), (.long (w_received_x0 + w_forwardLost_x0))])) _
    refine st3 _ ?_
    show Steps p.tables e below (T3.setTop (mkF m 13 #[.val (.ref x0)] [(.long w_backwardLost_x0), (.long (w_received_x0 + w_forwardLost_x0))])) _
    refine XS.ladd X3.here hx rfl (hb hby d4_13) rfl ?_
    show Steps p.tables e below (T3.setTop (mkF m 14 #[.val (.ref x0)] [(.long ((w_received_x0 + w_forwardLost_x0) + w_backwardLost_x0))])) _
    refine XS.aloadN X3.here hx rfl (hb hby d4_14) rfl rfl ?_
    show Steps p.tables e below (T3.setTop (mkF m 15 #[.val (.ref x0)] [(.ref x0), (.long ((w_received_x0 + w_forwardLost_x0) + w_backwardLost_x0))])) _
    refine st4 _ ?_
    show Steps p.tables e below (T4.setTop (mkF m 18 #[.val (.ref x0)] [(.long w_directionUnknown_x0), (.long ((w_received_x0 + w_forwardLost_x0) + w_backwardLost_x0))])) _
    refine XS.ladd X4.here hx rfl (hb hby d4_18) rfl ?_
    show Steps p.tables e below (T4.setTop (mkF m 19 #[.val (.ref x0)] [(.long (((w_received_x0 + w_forwardLost_x0) + w_backwardLost_x0) + w_directionUnknown_x0))])) _
    exact X4.lreturnOut hx hret (hb hby d4_19) hr
  · show Q4 Z x0 w_received_x0 w_forwardLost_x0 w_backwardLost_x0 w_directionUnknown_x0 h0 n0 _ T4.heap _
    rw [e4]
    have rr : f4 w_received_x0 w_forwardLost_x0 w_backwardLost_x0 w_directionUnknown_x0 = (((w_received_x0 + w_forwardLost_x0) + w_backwardLost_x0) + w_directionUnknown_x0) := rfl
    exact ⟨congrArg (fun z => some (Value.long z)) rr.symm, N0, rfl⟩
-- body 5: com/example/pulseline/pulseline/PacketFates.forwardReceived:()J
theorem d5_0 : decode prog_15_method_4_code 0 = .ok (.aload_n 0, 1) := by decide +kernel
theorem d5_1 : decode prog_15_method_4_code 1 = .ok (.getfield 7, 3) := by decide +kernel
theorem d5_4 : decode prog_15_method_4_code 4 = .ok (.aload_n 0, 1) := by decide +kernel
theorem d5_5 : decode prog_15_method_4_code 5 = .ok (.getfield 16, 3) := by decide +kernel
theorem d5_8 : decode prog_15_method_4_code 8 = .ok (.ladd, 1) := by decide +kernel
theorem d5_9 : decode prog_15_method_4_code 9 = .ok (.lreturn, 1) := by decide +kernel
theorem ef_5 (m : MethodId) (x0 : Addr) : entryFrame m #[(.ref x0)] 1 = mkF m 0 #[.val (.ref x0)] [] := by first | (simp [entryFrame, mkF, argsToLocals, Value.category]; done) | rfl
def f5 (w_received_x0 : Int64) (w_backwardLost_x0 : Int64) : Int64 := (w_received_x0 + w_backwardLost_x0)
def Q5 (Z : State) (x0 : Addr) (w_received_x0 : Int64) (w_backwardLost_x0 : Int64) (h0 : Heap) (n0 : Nat) (v : Option Value) (h : Heap) (L : List Loc) : Prop := v = some (.long (f5 w_received_x0 w_backwardLost_x0)) ∧ Fr n0 L ∧ h = h0
set_option maxRecDepth 65536 in
set_option maxHeartbeats 40000000 in
theorem rm5 (l : Launch) (Z : State) (a0 : Array Value) (hw : ∀ d ∈ tables_1, d.before a0 Z = true) (ws : List Jvm.Cond) (x0 : Addr) (w_received_x0 : Int64) (w_backwardLost_x0 : Int64) (h0 : Heap) (n0 : Nat) (Z0 : n0 ≤ h0.size) (F_x0_received : Fld Z h0 x0 "com/example/pulseline/pulseline/PacketFates" "received" "J" (.long w_received_x0)) (F_x0_backwardLost : Fld Z h0 x0 "com/example/pulseline/pulseline/PacketFates" "backwardLost" "J" (.long w_backwardLost_x0)) :
    MetFree l (⟨"com/example/pulseline/pulseline/PacketFates", "forwardReceived", "()J"⟩ : MethodName) (head1 (Jvm.Cond.code (⟨"com/example/pulseline/pulseline/PacketFates", "forwardReceived", "()J"⟩ : MethodName) prog_15_method_4_code 1 (some .long) :: ws) ({ frames := 0, cells := 0, slots := 0, locals := 0 } : Room)) (fun a U => a = #[(.ref x0)] ∧ Z.Warmed39 U.vm ∧ U.heap = h0) (fun _ _ _ _ _ => True) (fun _ U o U' => ∃ v L, o = .returned v ∧ Q5 Z x0 w_received_x0 w_backwardLost_x0 h0 n0 v U'.heap L ∧ FrameEnd U o U' L ({ frames := 0, cells := 0, slots := 0, locals := 0 } : Room).cells ({ frames := 0, cells := 0, slots := 0, locals := 0 } : Room).slots) := by
  refine MetFree.of_bodySF (plainFor_of_name pn_1) hisR ?_
  intro p e s m args below meth c s₁ Bd hml0 hP hK0
  obtain ⟨rfl, hZ, hh⟩ := hP
  have hx := Bd.exec
  have hby := Bd.bytes
  have hml : c.maxLocals = 1 := hml0
  have hown : s.vm.findClass "com/example/pulseline/pulseline/PacketFates" = some m.cls := findClass_of_methodNamed Bd.named
  have hnm := (name_of_methodNamed Bd.named Bd.method).1
  have hret : meth.sig.returnType = some .long := Bd.returns
  have hlk : meth.locks = false := Bd.notSynchronized
  have X0 : Stand p l e ({ frames := 0, cells := 0, slots := 0, locals := 0 } : Room) s m #[(.ref x0)] below meth c s₁ [] 0 0 := Stand.of_body Bd
  have e0 : s₁.heap = h0 := by rw [← hh, Bd.state]; rfl
  have N0 := Fr.nil n0
  have pre0 : ∀ t, Steps p.tables e below (s₁.setTop (mkF m 0 #[.val (.ref x0)] [])) t → Steps p.tables e below (s₁.setTop (entryFrame m #[(.ref x0)] 1)) t := fun t k => castTop (ef_5 m x0) k
  obtain ⟨T1, X1, e1, st1⟩ := getF X0 hx hZ hown (host := "") (Or.inl (hw _ (List.mem_of_getElem? (i := 14) rfl))) Via.refl e0 F_x0_received (g := (mkF m 1 #[.val (.ref x0)] [(.ref x0)])) rfl rfl (hb hby d5_1)
  obtain ⟨T2, X2, e2, st2⟩ := getF X1 hx hZ hown (host := "") (Or.inl (hw _ (List.mem_of_getElem? (i := 18) rfl))) Via.refl e1 F_x0_backwardLost (g := (mkF m 5 #[.val (.ref x0)] [(.ref x0), (.long w_received_x0)])) rfl rfl (hb hby d5_5)
  obtain ⟨fs, hr, hrun, hended, hW, hsame⟩ := X2.leave (v := some (.long (w_received_x0 + w_backwardLost_x0))) (fun h => by rw [hret] at h; cases h)
  refine ⟨_, _, pre0 _ ?_, hrun, hended, _, _, rfl, ?_, ⟨_, rfl⟩, hW, hsame.mono (by decide) (by decide)⟩
  · show Steps p.tables e below (s₁.setTop (mkF m 0 #[.val (.ref x0)] [])) _
    refine XS.aloadN X0.here hx rfl (hb hby d5_0) rfl rfl ?_
    show Steps p.tables e below (s₁.setTop (mkF m 1 #[.val (.ref x0)] [(.ref x0)])) _
    refine st1 _ ?_
    show Steps p.tables e below (T1.setTop (mkF m 4 #[.val (.ref x0)] [(.long w_received_x0)])) _
    refine XS.aloadN X1.here hx rfl (hb hby d5_4) rfl rfl ?_
    show Steps p.tables e below (T1.setTop (mkF m 5 #[.val (.ref x0)] [(.ref x0), (.long w_received_x0)])) _
    refine st2 _ ?_
    show Steps p.tables e below (T2.setTop (mkF m 8 #[.val (.ref x0)] [(.long w_backwardLost_x0), (.long w_received_x0)])) _
    refine XS.ladd X2.here hx rfl (hb hby d5_8) rfl ?_
    show Steps p.tables e below (T2.setTop (mkF m 9 #[.val (.ref x0)] [(.long (w_received_x0 + w_backwardLost_x0))])) _
    exact X2.lreturnOut hx hret (hb hby d5_9) hr
  · show Q5 Z x0 w_received_x0 w_backwardLost_x0 h0 n0 _ T2.heap _
    rw [e2]
    have rr : f5 w_received_x0 w_backwardLost_x0 = (w_received_x0 + w_backwardLost_x0) := rfl
    exact ⟨congrArg (fun z => some (Value.long z)) rr.symm, N0, rfl⟩
theorem pd_1 : parseMethodDescriptor "(JJJJJJ)V" = some ⟨[.long, .long, .long, .long, .long, .long], none⟩ := by decide +kernel
theorem pd_2 : parseMethodDescriptor "()J" = some ⟨[], some .long⟩ := by decide +kernel
-- body 0: com/example/pulseline/pulseline/PacketFatesSentPinLaw.law:(JJJJJJ)Z
theorem pn_2 : plainName "com/example/pulseline/pulseline/PacketFatesSentPinLaw" = true := by first | (simp [plainName, overriddenIn]; done) | decide +kernel
theorem ef_0 (m : MethodId) (x0 : Int64) (x1 : Int64) (x2 : Int64) (x3 : Int64) (x4 : Int64) (x5 : Int64) : entryFrame m #[(.long x0), (.long x1), (.long x2), (.long x3), (.long x4), (.long x5)] maxLocals = mkF m 0 #[.val (.long x0), .second, .val (.long x1), .second, .val (.long x2), .second, .val (.long x3), .second, .val (.long x4), .second, .val (.long x5), .second, .unset, .unset, .unset, .unset, .unset, .unset, .unset, .unset, .unset] [] := by first | (simp [entryFrame, mkF, argsToLocals, Value.category, maxLocals]; done) | rfl
def f0_v34 (x0 : Int64) (x1 : Int64) (x2 : Int64) (x3 : Int64) (x4 : Int64) (x5 : Int64) : Int64 := (f4 x0 x1 x2 x3)
def f0_v35 (x0 : Int64) (x1 : Int64) (x2 : Int64) (x3 : Int64) (x4 : Int64) (x5 : Int64) : Int64 := (x3 + (x2 + (x1 + x0)))
def f0_j38 (x0 : Int64) (x1 : Int64) (x2 : Int64) (x3 : Int64) (x4 : Int64) (x5 : Int64) : Int32 := if ifCond.holds .ne (own_cmp (f0_v34 x0 x1 x2 x3 x4 x5) (f0_v35 x0 x1 x2 x3 x4 x5)) = true then (0 : Int32) else (1 : Int32)
def f0_j45 (x0 : Int64) (x1 : Int64) (x2 : Int64) (x3 : Int64) (x4 : Int64) (x5 : Int64) : Int32 := if ifCond.holds .ne (own_cmp (f0_v34 x0 x1 x2 x3 x4 x5) (f4 x0 x1 x2 x3)) = true then (0 : Int32) else (1 : Int32)
def f0_j52 (x0 : Int64) (x1 : Int64) (x2 : Int64) (x3 : Int64) (x4 : Int64) (x5 : Int64) : Int32 := if ifCond.holds .ne (own_cmp ((f0_v34 x0 x1 x2 x3 x4 x5) - (f5 x0 x2)) (x1 + x3)) = true then (0 : Int32) else (1 : Int32)
def f0_j62 (x0 : Int64) (x1 : Int64) (x2 : Int64) (x3 : Int64) (x4 : Int64) (x5 : Int64) : Int32 := if ifCond.holds .eq (f0_j52 x0 x1 x2 x3 x4 x5) = true then (0 : Int32) else (1 : Int32)
def f0_j66 (x0 : Int64) (x1 : Int64) (x2 : Int64) (x3 : Int64) (x4 : Int64) (x5 : Int64) : Int32 := if ifCond.holds .eq (f0_j45 x0 x1 x2 x3 x4 x5) = true then (0 : Int32) else (f0_j62 x0 x1 x2 x3 x4 x5)
def f0_j69 (x0 : Int64) (x1 : Int64) (x2 : Int64) (x3 : Int64) (x4 : Int64) (x5 : Int64) : Int32 := if ifCond.holds .eq (f0_j38 x0 x1 x2 x3 x4 x5) = true then (0 : Int32) else (f0_j66 x0 x1 x2 x3 x4 x5)
def f0 (x0 : Int64) (x1 : Int64) (x2 : Int64) (x3 : Int64) (x4 : Int64) (x5 : Int64) : Int32 := (nar .boolean (f0_j69 x0 x1 x2 x3 x4 x5))
def Q0 (Z : State) (x0 : Int64) (x1 : Int64) (x2 : Int64) (x3 : Int64) (x4 : Int64) (x5 : Int64) (h0 : Heap) (n0 : Nat) (v : Option Value) (h : Heap) (L : List Loc) : Prop := v = some (.int (f0 x0 x1 x2 x3 x4 x5)) ∧ Fr n0 L
set_option maxRecDepth 65536 in
set_option maxHeartbeats 40000000 in
theorem rm0 (l : Launch) (Z : State) (a0 : Array Value) (hw : ∀ d ∈ tables_1, d.before a0 Z = true) (ws : List Jvm.Cond) (x0 : Int64) (x1 : Int64) (x2 : Int64) (x3 : Int64) (x4 : Int64) (x5 : Int64) (h0 : Heap) (n0 : Nat) (Z0 : n0 ≤ h0.size) :
    MetFree l x (head1 (Jvm.Cond.code x code maxLocals ret :: ws) room_1) (fun a U => a = #[(.long x0), (.long x1), (.long x2), (.long x3), (.long x4), (.long x5)] ∧ Z.Warmed39 U.vm ∧ U.heap = h0) (fun _ _ _ _ _ => True) (fun _ U o U' => ∃ v L, o = .returned v ∧ Q0 Z x0 x1 x2 x3 x4 x5 h0 n0 v U'.heap L ∧ FrameEnd U o U' L 2 12) := by
  refine MetFree.of_bodySF (plainFor_of_name pn_2) hisR ?_
  intro p e s m args below meth c s₁ Bd hml0 hP hK0
  obtain ⟨rfl, hZ, hh⟩ := hP
  have hx := Bd.exec
  have hby := Bd.bytes
  have hml : c.maxLocals = 21 := hml0
  have hown : s.vm.findClass "com/example/pulseline/pulseline/PacketFatesSentPinLaw" = some m.cls := findClass_of_methodNamed Bd.named
  have hnm := (name_of_methodNamed Bd.named Bd.method).1
  have hret : meth.sig.returnType = ret := Bd.returns
  have hlk : meth.locks = false := Bd.notSynchronized
  have X0 : Stand p l e room_1 s m #[(.long x0), (.long x1), (.long x2), (.long x3), (.long x4), (.long x5)] below meth c s₁ [] 0 0 := Stand.of_body Bd
  have e0 : s₁.heap = h0 := by rw [← hh, Bd.state]; rfl
  have N0 := Fr.nil n0
  have pre0 : ∀ t, Steps p.tables e below (s₁.setTop (mkF m 0 #[.val (.long x0), .second, .val (.long x1), .second, .val (.long x2), .second, .val (.long x3), .second, .val (.long x4), .second, .val (.long x5), .second, .unset, .unset, .unset, .unset, .unset, .unset, .unset, .unset, .unset] [])) t → Steps p.tables e below (s₁.setTop (entryFrame m #[(.long x0), (.long x1), (.long x2), (.long x3), (.long x4), (.long x5)] maxLocals)) t := fun t k => castTop (ef_0 m x0 x1 x2 x3 x4 x5) k
  obtain ⟨T1, h1, X1, e1, E1, A1, D1, -, st1⟩ := newO X0 hx hZ hown (hw _ (List.mem_of_getElem? (i := 0) rfl)) (hw _ (List.mem_of_getElem? (i := 1) rfl)) (hw _ (List.mem_of_getElem? (i := 2) rfl)) e0 (g := (mkF m 0 #[.val (.long x0), .second, .val (.long x1), .second, .val (.long x2), .second, .val (.long x3), .second, .val (.long x4), .second, .val (.long x5), .second, .unset, .unset, .unset, .unset, .unset, .unset, .unset, .unset, .unset] [])) rfl (hb hby at_0) (by decide) (by decide)
  obtain ⟨b1, gg1⟩ : ∃ z, z = h0.size := ⟨_, rfl⟩
  rw [← gg1] at A1 D1 st1
  have g_b1 : n0 ≤ b1 := Nat.le_trans Z0 (Nat.le_of_eq gg1.symm)
  have Z1 : n0 ≤ h1.size := Nat.le_trans Z0 E1.1
  have P2 : Fld Z h1 b1 "com/example/pulseline/pulseline/PacketFates" "received" "J" (.long (0 : Int64)) := D1 (Or.inr (hw _ (List.mem_of_getElem? (i := 15) rfl))) (ty := .long) (by decide)
  have P3 : Fld Z h1 b1 "com/example/pulseline/pulseline/PacketFates" "forwardLost" "J" (.long (0 : Int64)) := D1 (Or.inr (hw _ (List.mem_of_getElem? (i := 17) rfl))) (ty := .long) (by decide)
  have P4 : Fld Z h1 b1 "com/example/pulseline/pulseline/PacketFates" "backwardLost" "J" (.long (0 : Int64)) := D1 (Or.inr (hw _ (List.mem_of_getElem? (i := 19) rfl))) (ty := .long) (by decide)
  have P5 : Fld Z h1 b1 "com/example/pulseline/pulseline/PacketFates" "directionUnknown" "J" (.long (0 : Int64)) := D1 (Or.inr (hw _ (List.mem_of_getElem? (i := 21) rfl))) (ty := .long) (by decide)
  have P6 : Fld Z h1 b1 "com/example/pulseline/pulseline/PacketFates" "forwardDuplicates" "J" (.long (0 : Int64)) := D1 (Or.inr (hw _ (List.mem_of_getElem? (i := 23) rfl))) (ty := .long) (by decide)
  have P7 : Fld Z h1 b1 "com/example/pulseline/pulseline/PacketFates" "backwardDuplicates" "J" (.long (0 : Int64)) := D1 (Or.inr (hw _ (List.mem_of_getElem? (i := 25) rfl))) (ty := .long) (by decide)
  obtain ⟨_, _, ⟨T8, L8, k8, n8⟩, -, X8, ⟨Lc8, hQ8, l8, y8, z8⟩, st8⟩ := X1.specialBack hx (y := (⟨"com/example/pulseline/pulseline/PacketFates", "<init>", "(JJJJJJ)V"⟩ : MethodName)) rfl hown (mvT hZ (hw _ (List.mem_of_getElem? (i := 3) rfl))) (mvT hZ (hw _ (List.mem_of_getElem? (i := 4) rfl))) (mvT hZ (hw _ (List.mem_of_getElem? (i := 5) rfl))) (by decide) (backOf (W := 1) (rm1 l Z a0 hw [] b1 x0 x1 x2 x3 x4 x5 (.long (0 : Int64)) (.long (0 : Int64)) (.long (0 : Int64)) (.long (0 : Int64)) (.long (0 : Int64)) (.long (0 : Int64)) h1 n0 Z1 A1 g_b1 P2 P3 P4 P5 P6 P7) hZ (hw _ (List.mem_of_getElem? (i := 5) rfl)) (hw _ (List.mem_of_getElem? (i := 2) rfl)) (by decide) (by decide)) (g := (mkF m 14 #[.val (.long x0), .second, .val (.long x1), .second, .val (.long x2), .second, .val (.long x3), .second, .val (.long x4), .second, .val (.long x5), .second, .unset, .unset, .unset, .unset, .unset, .unset, .unset, .unset, .unset] [(.long x5), (.long x4), (.long x3), (.long x2), (.long x1), (.long x0), (.ref b1), (.ref b1)])) rfl (by rw [hml]; rfl) (Steps.refl _) (a := b1) (argsL := [(.long x0), (.long x1), (.long x2), (.long x3), (.long x4), (.long x5)]) (rest := [(.ref b1)]) (lenOf pd_1 rfl) rfl (by show 2 * 0 + _ ≤ _; exact Nat.le_of_eq rfl) (hb hby at_14) (fun _ _ => ⟨rfl, e1, (by decide : 1 + 0 ≤ _), (by decide : 6 + 0 ≤ _)⟩)
  dsimp only [Pt.U, Pt.locs, Pt.cells, Pt.slots] at X8 l8 y8 z8 st8 hQ8
  subst l8 y8 z8
  obtain ⟨rfl, Nq8, Kq8, G8_0, G8_1, G8_2, G8_3, G8_4, G8_5, G8_6⟩ := hQ8
  obtain ⟨h8, e8⟩ : ∃ z, T8.heap = z := ⟨_, rfl⟩
  rw [e8] at Kq8 G8_0 G8_1 G8_2 G8_3 G8_4 G8_5 G8_6
  have N8 := Fr.app N0 Nq8
  have Z8 : n0 ≤ h8.size := Nat.le_trans Z1 Kq8.1
  have P9 := A1.keep Kq8
  obtain ⟨T10, h10, X10, e10, E10, A10, D10, -, st10⟩ := newO X8 hx hZ hown (hw _ (List.mem_of_getElem? (i := 0) rfl)) (hw _ (List.mem_of_getElem? (i := 1) rfl)) (hw _ (List.mem_of_getElem? (i := 2) rfl)) e8 (g := (mkF m 19 #[.val (.long x0), .second, .val (.long x1), .second, .val (.long x2), .second, .val (.long x3), .second, .val (.long x4), .second, .val (.long x5), .second, .val (.ref b1), .unset, .unset, .unset, .unset, .unset, .unset, .unset, .unset] [])) rfl (hb hby at_19) (by decide) (by decide)
  obtain ⟨b10, gg10⟩ : ∃ z, z = h8.size := ⟨_, rfl⟩
  rw [← gg10] at A10 D10 st10
  have ne_b1_b10 : b1 ≠ b10 := Nat.ne_of_lt (Nat.lt_of_lt_of_le G8_0.lt (Nat.le_of_eq gg10.symm))
  have g_b10 : n0 ≤ b10 := Nat.le_trans Z8 (Nat.le_of_eq gg10.symm)
  have Z10 : n0 ≤ h10.size := Nat.le_trans Z8 E10.1
  have P11 := G8_0.ext E10
  have P12 := G8_1.ext E10
  have P13 := G8_2.ext E10
  have P14 := G8_3.ext E10
  have P15 := G8_4.ext E10
  have P16 := G8_5.ext E10
  have P17 := G8_6.ext E10
  have P18 : Fld Z h10 b10 "com/example/pulseline/pulseline/PacketFates" "received" "J" (.long (0 : Int64)) := D10 (Or.inr (hw _ (List.mem_of_getElem? (i := 15) rfl))) (ty := .long) (by decide)
  have P19 : Fld Z h10 b10 "com/example/pulseline/pulseline/PacketFates" "forwardLost" "J" (.long (0 : Int64)) := D10 (Or.inr (hw _ (List.mem_of_getElem? (i := 17) rfl))) (ty := .long) (by decide)
  have P20 : Fld Z h10 b10 "com/example/pulseline/pulseline/PacketFates" "backwardLost" "J" (.long (0 : Int64)) := D10 (Or.inr (hw _ (List.mem_of_getElem? (i := 19) rfl))) (ty := .long) (by decide)
  have P21 : Fld Z h10 b10 "com/example/pulseline/pulseline/PacketFates" "directionUnknown" "J" (.long (0 : Int64)) := D10 (Or.inr (hw _ (List.mem_of_getElem? (i := 21) rfl))) (ty := .long) (by decide)
  have P22 : Fld Z h10 b10 "com/example/pulseline/pulseline/PacketFates" "forwardDuplicates" "J" (.long (0 : Int64)) := D10 (Or.inr (hw _ (List.mem_of_getElem? (i := 23) rfl))) (ty := .long) (by decide)
  have P23 : Fld Z h10 b10 "com/example/pulseline/pulseline/PacketFates" "backwardDuplicates" "J" (.long (0 : Int64)) := D10 (Or.inr (hw _ (List.mem_of_getElem? (i := 25) rfl))) (ty := .long) (by decide)
  obtain ⟨_, _, ⟨T24, L24, k24, n24⟩, -, X24, ⟨Lc24, hQ24, l24, y24, z24⟩, st24⟩ := X10.specialBack hx (y := (⟨"com/example/pulseline/pulseline/PacketFates", "<init>", "(JJJJJJ)V"⟩ : MethodName)) rfl hown (mvT hZ (hw _ (List.mem_of_getElem? (i := 3) rfl))) (mvT hZ (hw _ (List.mem_of_getElem? (i := 4) rfl))) (mvT hZ (hw _ (List.mem_of_getElem? (i := 5) rfl))) (by decide) (backOf (W := 1) (rm1 l Z a0 hw [] b10 x0 x1 x2 x3 (0 : Int64) (0 : Int64) (.long (0 : Int64)) (.long (0 : Int64)) (.long (0 : Int64)) (.long (0 : Int64)) (.long (0 : Int64)) (.long (0 : Int64)) h10 n0 Z10 A10 g_b10 P18 P19 P20 P21 P22 P23) hZ (hw _ (List.mem_of_getElem? (i := 5) rfl)) (hw _ (List.mem_of_getElem? (i := 2) rfl)) (by decide) (by decide)) (g := (mkF m 31 #[.val (.long x0), .second, .val (.long x1), .second, .val (.long x2), .second, .val (.long x3), .second, .val (.long x4), .second, .val (.long x5), .second, .val (.ref b1), .unset, .unset, .unset, .unset, .unset, .unset, .unset, .unset] [(.long (0 : Int64)), (.long (0 : Int64)), (.long x3), (.long x2), (.long x1), (.long x0), (.ref b10), (.ref b10)])) rfl (by rw [hml]; rfl) (Steps.refl _) (a := b10) (argsL := [(.long x0), (.long x1), (.long x2), (.long x3), (.long (0 : Int64)), (.long (0 : Int64))]) (rest := [(.ref b10)]) (lenOf pd_1 rfl) rfl (by show 2 * 0 + _ ≤ _; exact Nat.le_of_eq rfl) (hb hby at_31) (fun _ _ => ⟨rfl, e10, (by decide : 2 + 0 ≤ _), (by decide : 12 + 0 ≤ _)⟩)
  dsimp only [Pt.U, Pt.locs, Pt.cells, Pt.slots] at X24 l24 y24 z24 st24 hQ24
  subst l24 y24 z24
  obtain ⟨rfl, Nq24, Kq24, G24_0, G24_1, G24_2, G24_3, G24_4, G24_5, G24_6⟩ := hQ24
  obtain ⟨h24, e24⟩ : ∃ z, T24.heap = z := ⟨_, rfl⟩
  rw [e24] at Kq24 G24_0 G24_1 G24_2 G24_3 G24_4 G24_5 G24_6
  have N24 := Fr.app N8 Nq24
  have Z24 : n0 ≤ h24.size := Nat.le_trans Z10 Kq24.1
  have P25 := P11.keep Kq24
  have P26 := P12.keep Kq24 (ninS ne_b1_b10 nin0)
  have P27 := P13.keep Kq24 (ninS ne_b1_b10 nin0)
  have P28 := P14.keep Kq24 (ninS ne_b1_b10 nin0)
  have P29 := P15.keep Kq24 (ninS ne_b1_b10 nin0)
  have P30 := P16.keep Kq24 (ninS ne_b1_b10 nin0)
  have P31 := P17.keep Kq24 (ninS ne_b1_b10 nin0)
  have P32 := A10.keep Kq24
  obtain ⟨cq33, kq33, q33a, q33b, q33c⟩ := isOf hZ e24 P25
  obtain ⟨_, _, ⟨T33, L33, k33, n33⟩, -, X33, ⟨Lc33, hQ33, l33, y33, z33⟩, st33⟩ := X24.virtualBack hx (y := (⟨"com/example/pulseline/pulseline/PacketFates", "sent", "()J"⟩ : MethodName)) (z := (⟨"com/example/pulseline/pulseline/PacketFates", "sent", "()J"⟩ : MethodName)) hown (mvT hZ (hw _ (List.mem_of_getElem? (i := 26) rfl))) (mvT hZ (hw _ (List.mem_of_getElem? (i := 27) rfl))) (notFace_of_selects (args := #[]) (mvT hZ (hw _ (List.mem_of_getElem? (i := 29) rfl)))) (mvT hZ (hw _ (List.mem_of_getElem? (i := 29) rfl))) (mvT hZ (hw _ (List.mem_of_getElem? (i := 28) rfl))) (by decide) (backOf (W := 0) (rm4 l Z a0 hw [] b1 x0 x1 x2 x3 h24 n0 Z24 P26 P27 P28 P29) hZ (hw _ (List.mem_of_getElem? (i := 30) rfl)) (hw _ (List.mem_of_getElem? (i := 2) rfl)) (by decide) (by decide)) q33a q33c (g := (mkF m 38 #[.val (.long x0), .second, .val (.long x1), .second, .val (.long x2), .second, .val (.long x3), .second, .val (.long x4), .second, .val (.long x5), .second, .val (.ref b1), .val (.ref b10), .unset, .unset, .unset, .unset, .unset, .unset, .unset] [(.ref b1)])) rfl (by rw [hml]; rfl) (Steps.refl _) (argsL := []) (rest := []) (lenOf pd_2 rfl) rfl (by show 2 * 0 + _ ≤ _; exact Nat.le_of_eq rfl) (hb hby at_38) (fun _ _ => ⟨rfl, e24, (by decide : 2 + 0 ≤ _), (by decide : 12 + 0 ≤ _)⟩)
  dsimp only [Pt.U, Pt.locs, Pt.cells, Pt.slots] at X33 l33 y33 z33 st33 hQ33
  subst l33 y33 z33
  obtain ⟨rfl, Nq33, e33⟩ := hQ33
  have N33 := Fr.app N24 Nq33
  have pre36 : ∀ t, Steps p.tables e below (T33.setTop (mkF m 59 #[.val (.long x0), .second, .val (.long x1), .second, .val (.long x2), .second, .val (.long x3), .second, .val (.long x4), .second, .val (.long x5), .second, .val (.ref b1), .val (.ref b10), .val (.long (f0_v34 x0 x1 x2 x3 x4 x5)), .second, .val (.long (f0_v35 x0 x1 x2 x3 x4 x5)), .second, .unset, .unset, .unset] [(.int (own_cmp (f0_v34 x0 x1 x2 x3 x4 x5) (f0_v35 x0 x1 x2 x3 x4 x5)))])) t → Steps p.tables e below (s₁.setTop (entryFrame m #[(.long x0), (.long x1), (.long x2), (.long x3), (.long x4), (.long x5)] maxLocals)) t := by
    intro t k
    refine pre0 _ ?_
    show Steps p.tables e below (s₁.setTop (mkF m 0 #[.val (.long x0), .second, .val (.long x1), .second, .val (.long x2), .second, .val (.long x3), .second, .val (.long x4), .second, .val (.long x5), .second, .unset, .unset, .unset, .unset, .unset, .unset, .unset, .unset, .unset] [])) _
    refine st1 _ ?_
    show Steps p.tables e below (T1.setTop (mkF m 3 #[.val (.long x0), .second, .val (.long x1), .second, .val (.long x2), .second, .val (.long x3), .second, .val (.long x4), .second, .val (.long x5), .second, .unset, .unset, .unset, .unset, .unset, .unset, .unset, .unset, .unset] [(.ref b1)])) _
    refine XS.dup X1.here hx rfl (hb hby at_3) rfl rfl ?_
    show Steps p.tables e below (T1.setTop (mkF m 4 #[.val (.long x0), .second, .val (.long x1), .second, .val (.long x2), .second, .val (.long x3), .second, .val (.long x4), .second, .val (.long x5), .second, .unset, .unset, .unset, .unset, .unset, .unset, .unset, .unset, .unset] [(.ref b1), (.ref b1)])) _
    refine XS.lloadN X1.here hx rfl (hb hby at_4) rfl ?_
    show Steps p.tables e below (T1.setTop (mkF m 5 #[.val (.long x0), .second, .val (.long x1), .second, .val (.long x2), .second, .val (.long x3), .second, .val (.long x4), .second, .val (.long x5), .second, .unset, .unset, .unset, .unset, .unset, .unset, .unset, .unset, .unset] [(.long x0), (.ref b1), (.ref b1)])) _
    refine XS.lloadN X1.here hx rfl (hb hby at_5) rfl ?_
    show Steps p.tables e below (T1.setTop (mkF m 6 #[.val (.long x0), .second, .val (.long x1), .second, .val (.long x2), .second, .val (.long x3), .second, .val (.long x4), .second, .val (.long x5), .second, .unset, .unset, .unset, .unset, .unset, .unset, .unset, .unset, .unset] [(.long x1), (.long x0), (.ref b1), (.ref b1)])) _
    refine XS.lload X1.here hx rfl (hb hby at_6) rfl ?_
    show Steps p.tables e below (T1.setTop (mkF m 8 #[.val (.long x0), .second, .val (.long x1), .second, .val (.long x2), .second, .val (.long x3), .second, .val (.long x4), .second, .val (.long x5), .second, .unset, .unset, .unset, .unset, .unset, .unset, .unset, .unset, .unset] [(.long x2), (.long x1), (.long x0), (.ref b1), (.ref b1)])) _
    refine XS.lload X1.here hx rfl (hb hby at_8) rfl ?_
    show Steps p.tables e below (T1.setTop (mkF m 10 #[.val (.long x0), .second, .val (.long x1), .second, .val (.long x2), .second, .val (.long x3), .second, .val (.long x4), .second, .val (.long x5), .second, .unset, .unset, .unset, .unset, .unset, .unset, .unset, .unset, .unset] [(.long x3), (.long x2), (.long x1), (.long x0), (.ref b1), (.ref b1)])) _
    refine XS.lload X1.here hx rfl (hb hby at_10) rfl ?_
    show Steps p.tables e below (T1.setTop (mkF m 12 #[.val (.long x0), .second, .val (.long x1), .second, .val (.long x2), .second, .val (.long x3), .second, .val (.long x4), .second, .val (.long x5), .second, .unset, .unset, .unset, .unset, .unset, .unset, .unset, .unset, .unset] [(.long x4), (.long x3), (.long x2), (.long x1), (.long x0), (.ref b1), (.ref b1)])) _
    refine XS.lload X1.here hx rfl (hb hby at_12) rfl ?_
    show Steps p.tables e below (T1.setTop (mkF m 14 #[.val (.long x0), .second, .val (.long x1), .second, .val (.long x2), .second, .val (.long x3), .second, .val (.long x4), .second, .val (.long x5), .second, .unset, .unset, .unset, .unset, .unset, .unset, .unset, .unset, .unset] [(.long x5), (.long x4), (.long x3), (.long x2), (.long x1), (.long x0), (.ref b1), (.ref b1)])) _
    refine st8.trans ?_
    show Steps p.tables e below (T8.setTop (mkF m 17 #[.val (.long x0), .second, .val (.long x1), .second, .val (.long x2), .second, .val (.long x3), .second, .val (.long x4), .second, .val (.long x5), .second, .unset, .unset, .unset, .unset, .unset, .unset, .unset, .unset, .unset] [(.ref b1)])) _
    refine XS.astore X8.here hx rfl (hb hby at_17) rfl rfl (l' := #[.val (.long x0), .second, .val (.long x1), .second, .val (.long x2), .second, .val (.long x3), .second, .val (.long x4), .second, .val (.long x5), .second, .val (.ref b1), .unset, .unset, .unset, .unset, .unset, .unset, .unset, .unset]) rfl ?_
    show Steps p.tables e below (T8.setTop (mkF m 19 #[.val (.long x0), .second, .val (.long x1), .second, .val (.long x2), .second, .val (.long x3), .second, .val (.long x4), .second, .val (.long x5), .second, .val (.ref b1), .unset, .unset, .unset, .unset, .unset, .unset, .unset, .unset] [])) _
    refine st10 _ ?_
    show Steps p.tables e below (T10.setTop (mkF m 22 #[.val (.long x0), .second, .val (.long x1), .second, .val (.long x2), .second, .val (.long x3), .second, .val (.long x4), .second, .val (.long x5), .second, .val (.ref b1), .unset, .unset, .unset, .unset, .unset, .unset, .unset, .unset] [(.ref b10)])) _
    refine XS.dup X10.here hx rfl (hb hby at_22) rfl rfl ?_
    show Steps p.tables e below (T10.setTop (mkF m 23 #[.val (.long x0), .second, .val (.long x1), .second, .val (.long x2), .second, .val (.long x3), .second, .val (.long x4), .second, .val (.long x5), .second, .val (.ref b1), .unset, .unset, .unset, .unset, .unset, .unset, .unset, .unset] [(.ref b10), (.ref b10)])) _
    refine XS.lloadN X10.here hx rfl (hb hby at_23) rfl ?_
    show Steps p.tables e below (T10.setTop (mkF m 24 #[.val (.long x0), .second, .val (.long x1), .second, .val (.long x2), .second, .val (.long x3), .second, .val (.long x4), .second, .val (.long x5), .second, .val (.ref b1), .unset, .unset, .unset, .unset, .unset, .unset, .unset, .unset] [(.long x0), (.ref b10), (.ref b10)])) _
    refine XS.lloadN X10.here hx rfl (hb hby at_24) rfl ?_
    show Steps p.tables e below (T10.setTop (mkF m 25 #[.val (.long x0), .second, .val (.long x1), .second, .val (.long x2), .second, .val (.long x3), .second, .val (.long x4), .second, .val (.long x5), .second, .val (.ref b1), .unset, .unset, .unset, .unset, .unset, .unset, .unset, .unset] [(.long x1), (.long x0), (.ref b10), (.ref b10)])) _
    refine XS.lload X10.here hx rfl (hb hby at_25) rfl ?_
    show Steps p.tables e below (T10.setTop (mkF m 27 #[.val (.long x0), .second, .val (.long x1), .second, .val (.long x2), .second, .val (.long x3), .second, .val (.long x4), .second, .val (.long x5), .second, .val (.ref b1), .unset, .unset, .unset, .unset, .unset, .unset, .unset, .unset] [(.long x2), (.long x1), (.long x0), (.ref b10), (.ref b10)])) _
    refine XS.lload X10.here hx rfl (hb hby at_27) rfl ?_
    show Steps p.tables e below (T10.setTop (mkF m 29 #[.val (.long x0), .second, .val (.long x1), .second, .val (.long x2), .second, .val (.long x3), .second, .val (.long x4), .second, .val (.long x5), .second, .val (.ref b1), .unset, .unset, .unset, .unset, .unset, .unset, .unset, .unset] [(.long x3), (.long x2), (.long x1), (.long x0), (.ref b10), (.ref b10)])) _
    refine XS.lconst X10.here hx rfl (hb hby at_29) ?_
    show Steps p.tables e below (T10.setTop (mkF m 30 #[.val (.long x0), .second, .val (.long x1), .second, .val (.long x2), .second, .val (.long x3), .second, .val (.long x4), .second, .val (.long x5), .second, .val (.ref b1), .unset, .unset, .unset, .unset, .unset, .unset, .unset, .unset] [(.long (0 : Int64)), (.long x3), (.long x2), (.long x1), (.long x0), (.ref b10), (.ref b10)])) _
    refine XS.lconst X10.here hx rfl (hb hby at_30) ?_
    show Steps p.tables e below (T10.setTop (mkF m 31 #[.val (.long x0), .second, .val (.long x1), .second, .val (.long x2), .second, .val (.long x3), .second, .val (.long x4), .second, .val (.long x5), .second, .val (.ref b1), .unset, .unset, .unset, .unset, .unset, .unset, .unset, .unset] [(.long (0 : Int64)), (.long (0 : Int64)), (.long x3), (.long x2), (.long x1), (.long x0), (.ref b10), (.ref b10)])) _
    refine st24.trans ?_
    show Steps p.tables e below (T24.setTop (mkF m 34 #[.val (.long x0), .second, .val (.long x1), .second, .val (.long x2), .second, .val (.long x3), .second, .val (.long x4), .second, .val (.long x5), .second, .val (.ref b1), .unset, .unset, .unset, .unset, .unset, .unset, .unset, .unset] [(.ref b10)])) _
    refine XS.astore X24.here hx rfl (hb hby at_34) rfl rfl (l' := #[.val (.long x0), .second, .val (.long x1), .second, .val (.long x2), .second, .val (.long x3), .second, .val (.long x4), .second, .val (.long x5), .second, .val (.ref b1), .val (.ref b10), .unset, .unset, .unset, .unset, .unset, .unset, .unset]) rfl ?_
    show Steps p.tables e below (T24.setTop (mkF m 36 #[.val (.long x0), .second, .val (.long x1), .second, .val (.long x2), .second, .val (.long x3), .second, .val (.long x4), .second, .val (.long x5), .second, .val (.ref b1), .val (.ref b10), .unset, .unset, .unset, .unset, .unset, .unset, .unset] [])) _
    refine XS.aload X24.here hx rfl (hb hby at_36) rfl rfl ?_
    show Steps p.tables e below (T24.setTop (mkF m 38 #[.val (.long x0), .second, .val (.long x1), .second, .val (.long x2), .second, .val (.long x3), .second, .val (.long x4), .second, .val (.long x5), .second, .val (.ref b1), .val (.ref b10), .unset, .unset, .unset, .unset, .unset, .unset, .unset] [(.ref b1)])) _
    refine st33.trans ?_
    show Steps p.tables e below (T33.setTop (mkF m 41 #[.val (.long x0), .second, .val (.long x1), .second, .val (.long x2), .second, .val (.long x3), .second, .val (.long x4), .second, .val (.long x5), .second, .val (.ref b1), .val (.ref b10), .unset, .unset, .unset, .unset, .unset, .unset, .unset] [(.long (f4 x0 x1 x2 x3))])) _
    refine XS.lstore X33.here hx rfl (hb hby at_41) rfl (l' := #[.val (.long x0), .second, .val (.long x1), .second, .val (.long x2), .second, .val (.long x3), .second, .val (.long x4), .second, .val (.long x5), .second, .val (.ref b1), .val (.ref b10), .val (.long (f0_v34 x0 x1 x2 x3 x4 x5)), .second, .unset, .unset, .unset, .unset, .unset]) rfl ?_
    show Steps p.tables e below (T33.setTop (mkF m 43 #[.val (.long x0), .second, .val (.long x1), .second, .val (.long x2), .second, .val (.long x3), .second, .val (.long x4), .second, .val (.long x5), .second, .val (.ref b1), .val (.ref b10), .val (.long (f0_v34 x0 x1 x2 x3 x4 x5)), .second, .unset, .unset, .unset, .unset, .unset] [])) _
    refine XS.lload X33.here hx rfl (hb hby at_43) rfl ?_
    show Steps p.tables e below (T33.setTop (mkF m 45 #[.val (.long x0), .second, .val (.long x1), .second, .val (.long x2), .second, .val (.long x3), .second, .val (.long x4), .second, .val (.long x5), .second, .val (.ref b1), .val (.ref b10), .val (.long (f0_v34 x0 x1 x2 x3 x4 x5)), .second, .unset, .unset, .unset, .unset, .unset] [(.long x3)])) _
    refine XS.lload X33.here hx rfl (hb hby at_45) rfl ?_
    show Steps p.tables e below (T33.setTop (mkF m 47 #[.val (.long x0), .second, .val (.long x1), .second, .val (.long x2), .second, .val (.long x3), .second, .val (.long x4), .second, .val (.long x5), .second, .val (.ref b1), .val (.ref b10), .val (.long (f0_v34 x0 x1 x2 x3 x4 x5)), .second, .unset, .unset, .unset, .unset, .unset] [(.long x2), (.long x3)])) _
    refine XS.lloadN X33.here hx rfl (hb hby at_47) rfl ?_
    show Steps p.tables e below (T33.setTop (mkF m 48 #[.val (.long x0), .second, .val (.long x1), .second, .val (.long x2), .second, .val (.long x3), .second, .val (.long x4), .second, .val (.long x5), .second, .val (.ref b1), .val (.ref b10), .val (.long (f0_v34 x0 x1 x2 x3 x4 x5)), .second, .unset, .unset, .unset, .unset, .unset] [(.long x1), (.long x2), (.long x3)])) _
    refine XS.lloadN X33.here hx rfl (hb hby at_48) rfl ?_
    show Steps p.tables e below (T33.setTop (mkF m 49 #[.val (.long x0), .second, .val (.long x1), .second, .val (.long x2), .second, .val (.long x3), .second, .val (.long x4), .second, .val (.long x5), .second, .val (.ref b1), .val (.ref b10), .val (.long (f0_v34 x0 x1 x2 x3 x4 x5)), .second, .unset, .unset, .unset, .unset, .unset] [(.long x0), (.long x1), (.long x2), (.long x3)])) _
    refine XS.ladd X33.here hx rfl (hb hby at_49) rfl ?_
    show Steps p.tables e below (T33.setTop (mkF m 50 #[.val (.long x0), .second, .val (.long x1), .second, .val (.long x2), .second, .val (.long x3), .second, .val (.long x4), .second, .val (.long x5), .second, .val (.ref b1), .val (.ref b10), .val (.long (f0_v34 x0 x1 x2 x3 x4 x5)), .second, .unset, .unset, .unset, .unset, .unset] [(.long (x1 + x0)), (.long x2), (.long x3)])) _
    refine XS.ladd X33.here hx rfl (hb hby at_50) rfl ?_
    show Steps p.tables e below (T33.setTop (mkF m 51 #[.val (.long x0), .second, .val (.long x1), .second, .val (.long x2), .second, .val (.long x3), .second, .val (.long x4), .second, .val (.long x5), .second, .val (.ref b1), .val (.ref b10), .val (.long (f0_v34 x0 x1 x2 x3 x4 x5)), .second, .unset, .unset, .unset, .unset, .unset] [(.long (x2 + (x1 + x0))), (.long x3)])) _
    refine XS.ladd X33.here hx rfl (hb hby at_51) rfl ?_
    show Steps p.tables e below (T33.setTop (mkF m 52 #[.val (.long x0), .second, .val (.long x1), .second, .val (.long x2), .second, .val (.long x3), .second, .val (.long x4), .second, .val (.long x5), .second, .val (.ref b1), .val (.ref b10), .val (.long (f0_v34 x0 x1 x2 x3 x4 x5)), .second, .unset, .unset, .unset, .unset, .unset] [(.long (x3 + (x2 + (x1 + x0))))])) _
    refine XS.lstore X33.here hx rfl (hb hby at_52) rfl (l' := #[.val (.long x0), .second, .val (.long x1), .second, .val (.long x2), .second, .val (.long x3), .second, .val (.long x4), .second, .val (.long x5), .second, .val (.ref b1), .val (.ref b10), .val (.long (f0_v34 x0 x1 x2 x3 x4 x5)), .second, .val (.long (f0_v35 x0 x1 x2 x3 x4 x5)), .second, .unset, .unset, .unset]) rfl ?_
    show Steps p.tables e below (T33.setTop (mkF m 54 #[.val (.long x0), .second, .val (.long x1), .second, .val (.long x2), .second, .val (.long x3), .second, .val (.long x4), .second, .val (.long x5), .second, .val (.ref b1), .val (.ref b10), .val (.long (f0_v34 x0 x1 x2 x3 x4 x5)), .second, .val (.long (f0_v35 x0 x1 x2 x3 x4 x5)), .second, .unset, .unset, .unset] [])) _
    refine XS.lload X33.here hx rfl (hb hby at_54) rfl ?_
    show Steps p.tables e below (T33.setTop (mkF m 56 #[.val (.long x0), .second, .val (.long x1), .second, .val (.long x2), .second, .val (.long x3), .second, .val (.long x4), .second, .val (.long x5), .second, .val (.ref b1), .val (.ref b10), .val (.long (f0_v34 x0 x1 x2 x3 x4 x5)), .second, .val (.long (f0_v35 x0 x1 x2 x3 x4 x5)), .second, .unset, .unset, .unset] [(.long (f0_v34 x0 x1 x2 x3 x4 x5))])) _
    refine XS.lload X33.here hx rfl (hb hby at_56) rfl ?_
    show Steps p.tables e below (T33.setTop (mkF m 58 #[.val (.long x0), .second, .val (.long x1), .second, .val (.long x2), .second, .val (.long x3), .second, .val (.long x4), .second, .val (.long x5), .second, .val (.ref b1), .val (.ref b10), .val (.long (f0_v34 x0 x1 x2 x3 x4 x5)), .second, .val (.long (f0_v35 x0 x1 x2 x3 x4 x5)), .second, .unset, .unset, .unset] [(.long (f0_v35 x0 x1 x2 x3 x4 x5)), (.long (f0_v34 x0 x1 x2 x3 x4 x5))])) _
    refine XS.lcmp X33.here hx rfl (hb hby at_58) rfl ?_
    exact k
  obtain ⟨T39, L39, X39, N39, e39, pre39⟩ : ∃ (T' : State) (L' : List Loc), Stand p l e room_1 s m #[(.long x0), (.long x1), (.long x2), (.long x3), (.long x4), (.long x5)] below meth c T' L' 2 12 ∧ Fr n0 L' ∧ T'.heap = h24 ∧ ∀ t, Steps p.tables e below (T'.setTop (mkF m 67 #[.val (.long x0), .second, .val (.long x1), .second, .val (.long x2), .second, .val (.long x3), .second, .val (.long x4), .second, .val (.long x5), .second, .val (.ref b1), .val (.ref b10), .val (.long (f0_v34 x0 x1 x2 x3 x4 x5)), .second, .val (.long (f0_v35 x0 x1 x2 x3 x4 x5)), .second, .unset, .unset, .unset] [(.int (f0_j38 x0 x1 x2 x3 x4 x5))])) t → Steps p.tables e below (s₁.setTop (entryFrame m #[(.long x0), (.long x1), (.long x2), (.long x3), (.long x4), (.long x5)] maxLocals)) t := by
    rcases Bool.eq_false_or_eq_true (ifCond.holds .ne (own_cmp (f0_v34 x0 x1 x2 x3 x4 x5) (f0_v35 x0 x1 x2 x3 x4 x5))) with hc37 | hc37
    · have pre40 : ∀ t, Steps p.tables e below (T33.setTop (mkF m 67 #[.val (.long x0), .second, .val (.long x1), .second, .val (.long x2), .second, .val (.long x3), .second, .val (.long x4), .second, .val (.long x5), .second, .val (.ref b1), .val (.ref b10), .val (.long (f0_v34 x0 x1 x2 x3 x4 x5)), .second, .val (.long (f0_v35 x0 x1 x2 x3 x4 x5)), .second, .unset, .unset, .unset] [(.int (0 : Int32))])) t → Steps p.tables e below (s₁.setTop (entryFrame m #[(.long x0), (.long x1), (.long x2), (.long x3), (.long x4), (.long x5)] maxLocals)) t := by
        intro t k
        refine pre36 _ ?_
        show Steps p.tables e below (T33.setTop (mkF m 59 #[.val (.long x0), .second, .val (.long x1), .second, .val (.long x2), .second, .val (.long x3), .second, .val (.long x4), .second, .val (.long x5), .second, .val (.ref b1), .val (.ref b10), .val (.long (f0_v34 x0 x1 x2 x3 x4 x5)), .second, .val (.long (f0_v35 x0 x1 x2 x3 x4 x5)), .second, .unset, .unset, .unset] [(.int (own_cmp (f0_v34 x0 x1 x2 x3 x4 x5) (f0_v35 x0 x1 x2 x3 x4 x5)))])) _
        refine XS.ifYes X33.here hx rfl (pc0 := 59) (pc' := 66) rfl (hb hby at_59) rfl hc37 (by decide) (by decide) ?_
        show Steps p.tables e below (T33.setTop (mkF m 66 #[.val (.long x0), .second, .val (.long x1), .second, .val (.long x2), .second, .val (.long x3), .second, .val (.long x4), .second, .val (.long x5), .second, .val (.ref b1), .val (.ref b10), .val (.long (f0_v34 x0 x1 x2 x3 x4 x5)), .second, .val (.long (f0_v35 x0 x1 x2 x3 x4 x5)), .second, .unset, .unset, .unset] [])) _
        refine XS.iconst X33.here hx rfl (hb hby at_66) ?_
        exact k
      have qj0 : (f0_j38 x0 x1 x2 x3 x4 x5) = (0 : Int32) := if_pos hc37
      refine ⟨T33, _, X33, N33, e33, fun t k => pre40 _ ?_⟩
      rw [qj0] at k
      exact k
    · have pre41 : ∀ t, Steps p.tables e below (T33.setTop (mkF m 67 #[.val (.long x0), .second, .val (.long x1), .second, .val (.long x2), .second, .val (.long x3), .second, .val (.long x4), .second, .val (.long x5), .second, .val (.ref b1), .val (.ref b10), .val (.long (f0_v34 x0 x1 x2 x3 x4 x5)), .second, .val (.long (f0_v35 x0 x1 x2 x3 x4 x5)), .second, .unset, .unset, .unset] [(.int (1 : Int32))])) t → Steps p.tables e below (s₁.setTop (entryFrame m #[(.long x0), (.long x1), (.long x2), (.long x3), (.long x4), (.long x5)] maxLocals)) t := by
        intro t k
        refine pre36 _ ?_
        show Steps p.tables e below (T33.setTop (mkF m 59 #[.val (.long x0), .second, .val (.long x1), .second, .val (.long x2), .second, .val (.long x3), .second, .val (.long x4), .second, .val (.long x5), .second, .val (.ref b1), .val (.ref b10), .val (.long (f0_v34 x0 x1 x2 x3 x4 x5)), .second, .val (.long (f0_v35 x0 x1 x2 x3 x4 x5)), .second, .unset, .unset, .unset] [(.int (own_cmp (f0_v34 x0 x1 x2 x3 x4 x5) (f0_v35 x0 x1 x2 x3 x4 x5)))])) _
        refine XS.ifNo X33.here hx rfl (hb hby at_59) rfl hc37 ?_
        show Steps p.tables e below (T33.setTop (mkF m 62 #[.val (.long x0), .second, .val (.long x1), .second, .val (.long x2), .second, .val (.long x3), .second, .val (.long x4), .second, .val (.long x5), .second, .val (.ref b1), .val (.ref b10), .val (.long (f0_v34 x0 x1 x2 x3 x4 x5)), .second, .val (.long (f0_v35 x0 x1 x2 x3 x4 x5)), .second, .unset, .unset, .unset] [])) _
        refine XS.iconst X33.here hx rfl (hb hby at_62) ?_
        show Steps p.tables e below (T33.setTop (mkF m 63 #[.val (.long x0), .second, .val (.long x1), .second, .val (.long x2), .second, .val (.long x3), .second, .val (.long x4), .second, .val (.long x5), .second, .val (.ref b1), .val (.ref b10), .val (.long (f0_v34 x0 x1 x2 x3 x4 x5)), .second, .val (.long (f0_v35 x0 x1 x2 x3 x4 x5)), .second, .unset, .unset, .unset] [(.int (1 : Int32))])) _
        refine XS.goto X33.here hx rfl (pc0 := 63) (pc' := 67) rfl (hb hby at_63) (by decide) (by decide) ?_
        exact k
      have qj0 : (f0_j38 x0 x1 x2 x3 x4 x5) = (1 : Int32) := if_neg (own_nt hc37)
      refine ⟨T33, _, X33, N33, e33, fun t k => pre41 _ ?_⟩
      rw [qj0] at k
      exact k
  obtain ⟨cq42, kq42, q42a, q42b, q42c⟩ := isOf hZ e39 G24_0
  obtain ⟨_, _, ⟨T42, L42, k42, n42⟩, -, X42, ⟨Lc42, hQ42, l42, y42, z42⟩, st42⟩ := X39.virtualBack hx (y := (⟨"com/example/pulseline/pulseline/PacketFates", "sent", "()J"⟩ : MethodName)) (z := (⟨"com/example/pulseline/pulseline/PacketFates", "sent", "()J"⟩ : MethodName)) hown (mvT hZ (hw _ (List.mem_of_getElem? (i := 26) rfl))) (mvT hZ (hw _ (List.mem_of_getElem? (i := 27) rfl))) (notFace_of_selects (args := #[]) (mvT hZ (hw _ (List.mem_of_getElem? (i := 29) rfl)))) (mvT hZ (hw _ (List.mem_of_getElem? (i := 29) rfl))) (mvT hZ (hw _ (List.mem_of_getElem? (i := 28) rfl))) (by decide) (backOf (W := 2) (rm4 l Z a0 hw [] b10 x0 x1 x2 x3 h24 n0 Z24 G24_1 G24_2 G24_3 G24_4) hZ (hw _ (List.mem_of_getElem? (i := 30) rfl)) (hw _ (List.mem_of_getElem? (i := 2) rfl)) (by decide) (by decide)) q42a q42c (g := (mkF m 73 #[.val (.long x0), .second, .val (.long x1), .second, .val (.long x2), .second, .val (.long x3), .second, .val (.long x4), .second, .val (.long x5), .second, .val (.ref b1), .val (.ref b10), .val (.long (f0_v34 x0 x1 x2 x3 x4 x5)), .second, .val (.long (f0_v35 x0 x1 x2 x3 x4 x5)), .second, .val (.int (f0_j38 x0 x1 x2 x3 x4 x5)), .unset, .unset] [(.ref b10), (.long (f0_v34 x0 x1 x2 x3 x4 x5))])) rfl (by rw [hml]; rfl) (Steps.refl _) (argsL := []) (rest := [(.long (f0_v34 x0 x1 x2 x3 x4 x5))]) (lenOf pd_2 rfl) rfl (by show 2 * 0 + _ ≤ _; exact Nat.le_of_eq rfl) (hb hby at_73) (fun _ _ => ⟨rfl, e39, (by decide : 2 + 0 ≤ _), (by decide : 12 + 0 ≤ _)⟩)
  dsimp only [Pt.U, Pt.locs, Pt.cells, Pt.slots] at X42 l42 y42 z42 st42 hQ42
  subst l42 y42 z42
  obtain ⟨rfl, Nq42, e42⟩ := hQ42
  have N42 := Fr.app N39 Nq42
  have pre43 : ∀ t, Steps p.tables e below (T42.setTop (mkF m 77 #[.val (.long x0), .second, .val (.long x1), .second, .val (.long x2), .second, .val (.long x3), .second, .val (.long x4), .second, .val (.long x5), .second, .val (.ref b1), .val (.ref b10), .val (.long (f0_v34 x0 x1 x2 x3 x4 x5)), .second, .val (.long (f0_v35 x0 x1 x2 x3 x4 x5)), .second, .val (.int (f0_j38 x0 x1 x2 x3 x4 x5)), .unset, .unset] [(.int (own_cmp (f0_v34 x0 x1 x2 x3 x4 x5) (f4 x0 x1 x2 x3)))])) t → Steps p.tables e below (s₁.setTop (entryFrame m #[(.long x0), (.long x1), (.long x2), (.long x3), (.long x4), (.long x5)] maxLocals)) t := by
    intro t k
    refine pre39 _ ?_
    show Steps p.tables e below (T39.setTop (mkF m 67 #[.val (.long x0), .second, .val (.long x1), .second, .val (.long x2), .second, .val (.long x3), .second, .val (.long x4), .second, .val (.long x5), .second, .val (.ref b1), .val (.ref b10), .val (.long (f0_v34 x0 x1 x2 x3 x4 x5)), .second, .val (.long (f0_v35 x0 x1 x2 x3 x4 x5)), .second, .unset, .unset, .unset] [(.int (f0_j38 x0 x1 x2 x3 x4 x5))])) _
    refine XS.istore X39.here hx rfl (hb hby at_67) rfl (l' := #[.val (.long x0), .second, .val (.long x1), .second, .val (.long x2), .second, .val (.long x3), .second, .val (.long x4), .second, .val (.long x5), .second, .val (.ref b1), .val (.ref b10), .val (.long (f0_v34 x0 x1 x2 x3 x4 x5)), .second, .val (.long (f0_v35 x0 x1 x2 x3 x4 x5)), .second, .val (.int (f0_j38 x0 x1 x2 x3 x4 x5)), .unset, .unset]) rfl ?_
    show Steps p.tables e below (T39.setTop (mkF m 69 #[.val (.long x0), .second, .val (.long x1), .second, .val (.long x2), .second, .val (.long x3), .second, .val (.long x4), .second, .val (.long x5), .second, .val (.ref b1), .val (.ref b10), .val (.long (f0_v34 x0 x1 x2 x3 x4 x5)), .second, .val (.long (f0_v35 x0 x1 x2 x3 x4 x5)), .second, .val (.int (f0_j38 x0 x1 x2 x3 x4 x5)), .unset, .unset] [])) _
    refine XS.lload X39.here hx rfl (hb hby at_69) rfl ?_
    show Steps p.tables e below (T39.setTop (mkF m 71 #[.val (.long x0), .second, .val (.long x1), .second, .val (.long x2), .second, .val (.long x3), .second, .val (.long x4), .second, .val (.long x5), .second, .val (.ref b1), .val (.ref b10), .val (.long (f0_v34 x0 x1 x2 x3 x4 x5)), .second, .val (.long (f0_v35 x0 x1 x2 x3 x4 x5)), .second, .val (.int (f0_j38 x0 x1 x2 x3 x4 x5)), .unset, .unset] [(.long (f0_v34 x0 x1 x2 x3 x4 x5))])) _
    refine XS.aload X39.here hx rfl (hb hby at_71) rfl rfl ?_
    show Steps p.tables e below (T39.setTop (mkF m 73 #[.val (.long x0), .second, .val (.long x1), .second, .val (.long x2), .second, .val (.long x3), .second, .val (.long x4), .second, .val (.long x5), .second, .val (.ref b1), .val (.ref b10), .val (.long (f0_v34 x0 x1 x2 x3 x4 x5)), .second, .val (.long (f0_v35 x0 x1 x2 x3 x4 x5)), .second, .val (.int (f0_j38 x0 x1 x2 x3 x4 x5)), .unset, .unset] [(.ref b10), (.long (f0_v34 x0 x1 x2 x3 x4 x5))])) _
    refine st42.trans ?_
    show Steps p.tables e below (T42.setTop (mkF m 76 #[.val (.long x0), .second, .val (.long x1), .second, .val (.long x2), .second, .val (.long x3), .second, .val (.long x4), .second, .val (.long x5), .second, .val (.ref b1), .val (.ref b10), .val (.long (f0_v34 x0 x1 x2 x3 x4 x5)), .second, .val (.long (f0_v35 x0 x1 x2 x3 x4 x5)), .second, .val (.int (f0_j38 x0 x1 x2 x3 x4 x5)), .unset, .unset] [(.long (f4 x0 x1 x2 x3)), (.long (f0_v34 x0 x1 x2 x3 x4 x5))])) _
    refine XS.lcmp X42.here hx rfl (hb hby at_76) rfl ?_
    exact k
  obtain ⟨T46, L46, X46, N46, e46, pre46⟩ : ∃ (T' : State) (L' : List Loc), Stand p l e room_1 s m #[(.long x0), (.long x1), (.long x2), (.long x3), (.long x4), (.long x5)] below meth c T' L' 2 12 ∧ Fr n0 L' ∧ T'.heap = h24 ∧ ∀ t, Steps p.tables e below (T'.setTop (mkF m 85 #[.val (.long x0), .second, .val (.long x1), .second, .val (.long x2), .second, .val (.long x3), .second, .val (.long x4), .second, .val (.long x5), .second, .val (.ref b1), .val (.ref b10), .val (.long (f0_v34 x0 x1 x2 x3 x4 x5)), .second, .val (.long (f0_v35 x0 x1 x2 x3 x4 x5)), .second, .val (.int (f0_j38 x0 x1 x2 x3 x4 x5)), .unset, .unset] [(.int (f0_j45 x0 x1 x2 x3 x4 x5))])) t → Steps p.tables e below (s₁.setTop (entryFrame m #[(.long x0), (.long x1), (.long x2), (.long x3), (.long x4), (.long x5)] maxLocals)) t := by
    rcases Bool.eq_false_or_eq_true (ifCond.holds .ne (own_cmp (f0_v34 x0 x1 x2 x3 x4 x5) (f4 x0 x1 x2 x3))) with hc44 | hc44
    · have pre47 : ∀ t, Steps p.tables e below (T42.setTop (mkF m 85 #[.val (.long x0), .second, .val (.long x1), .second, .val (.long x2), .second, .val (.long x3), .second, .val (.long x4), .second, .val (.long x5), .second, .val (.ref b1), .val (.ref b10), .val (.long (f0_v34 x0 x1 x2 x3 x4 x5)), .second, .val (.long (f0_v35 x0 x1 x2 x3 x4 x5)), .second, .val (.int (f0_j38 x0 x1 x2 x3 x4 x5)), .unset, .unset] [(.int (0 : Int32))])) t → Steps p.tables e below (s₁.setTop (entryFrame m #[(.long x0), (.long x1), (.long x2), (.long x3), (.long x4), (.long x5)] maxLocals)) t := by
        intro t k
        refine pre43 _ ?_
        show Steps p.tables e below (T42.setTop (mkF m 77 #[.val (.long x0), .second, .val (.long x1), .second, .val (.long x2), .second, .val (.long x3), .second, .val (.long x4), .second, .val (.long x5), .second, .val (.ref b1), .val (.ref b10), .val (.long (f0_v34 x0 x1 x2 x3 x4 x5)), .second, .val (.long (f0_v35 x0 x1 x2 x3 x4 x5)), .second, .val (.int (f0_j38 x0 x1 x2 x3 x4 x5)), .unset, .unset] [(.int (own_cmp (f0_v34 x0 x1 x2 x3 x4 x5) (f4 x0 x1 x2 x3)))])) _
        refine XS.ifYes X42.here hx rfl (pc0 := 77) (pc' := 84) rfl (hb hby at_77) rfl hc44 (by decide) (by decide) ?_
        show Steps p.tables e below (T42.setTop (mkF m 84 #[.val (.long x0), .second, .val (.long x1), .second, .val (.long x2), .second, .val (.long x3), .second, .val (.long x4), .second, .val (.long x5), .second, .val (.ref b1), .val (.ref b10), .val (.long (f0_v34 x0 x1 x2 x3 x4 x5)), .second, .val (.long (f0_v35 x0 x1 x2 x3 x4 x5)), .second, .val (.int (f0_j38 x0 x1 x2 x3 x4 x5)), .unset, .unset] [])) _
        refine XS.iconst X42.here hx rfl (hb hby at_84) ?_
        exact k
      have qj0 : (f0_j45 x0 x1 x2 x3 x4 x5) = (0 : Int32) := if_pos hc44
      refine ⟨T42, _, X42, N42, e42, fun t k => pre47 _ ?_⟩
      rw [qj0] at k
      exact k
    · have pre48 : ∀ t, Steps p.tables e below (T42.setTop (mkF m 85 #[.val (.long x0), .second, .val (.long x1), .second, .val (.long x2), .second, .val (.long x3), .second, .val (.long x4), .second, .val (.long x5), .second, .val (.ref b1), .val (.ref b10), .val (.long (f0_v34 x0 x1 x2 x3 x4 x5)), .second, .val (.long (f0_v35 x0 x1 x2 x3 x4 x5)), .second, .val (.int (f0_j38 x0 x1 x2 x3 x4 x5)), .unset, .unset] [(.int (1 : Int32))])) t → Steps p.tables e below (s₁.setTop (entryFrame m #[(.long x0), (.long x1), (.long x2), (.long x3), (.long x4), (.long x5)] maxLocals)) t := by
        intro t k
        refine pre43 _ ?_
        show Steps p.tables e below (T42.setTop (mkF m 77 #[.val (.long x0), .second, .val (.long x1), .second, .val (.long x2), .second, .val (.long x3), .second, .val (.long x4), .second, .val (.long x5), .second, .val (.ref b1), .val (.ref b10), .val (.long (f0_v34 x0 x1 x2 x3 x4 x5)), .second, .val (.long (f0_v35 x0 x1 x2 x3 x4 x5)), .second, .val (.int (f0_j38 x0 x1 x2 x3 x4 x5)), .unset, .unset] [(.int (own_cmp (f0_v34 x0 x1 x2 x3 x4 x5) (f4 x0 x1 x2 x3)))])) _
        refine XS.ifNo X42.here hx rfl (hb hby at_77) rfl hc44 ?_
        show Steps p.tables e below (T42.setTop (mkF m 80 #[.val (.long x0), .second, .val (.long x1), .second, .val (.long x2), .second, .val (.long x3), .second, .val (.long x4), .second, .val (.long x5), .second, .val (.ref b1), .val (.ref b10), .val (.long (f0_v34 x0 x1 x2 x3 x4 x5)), .second, .val (.long (f0_v35 x0 x1 x2 x3 x4 x5)), .second, .val (.int (f0_j38 x0 x1 x2 x3 x4 x5)), .unset, .unset] [])) _
        refine XS.iconst X42.here hx rfl (hb hby at_80) ?_
        show Steps p.tables e below (T42.setTop (mkF m 81 #[.val (.long x0), .second, .val (.long x1), .second, .val (.long x2), .second, .val (.long x3), .second, .val (.long x4), .second, .val (.long x5), .second, .val (.ref b1), .val (.ref b10), .val (.long (f0_v34 x0 x1 x2 x3 x4 x5)), .second, .val (.long (f0_v35 x0 x1 x2 x3 x4 x5)), .second, .val (.int (f0_j38 x0 x1 x2 x3 x4 x5)), .unset, .unset] [(.int (1 : Int32))])) _
        refine XS.goto X42.here hx rfl (pc0 := 81) (pc' := 85) rfl (hb hby at_81) (by decide) (by decide) ?_
        exact k
      have qj0 : (f0_j45 x0 x1 x2 x3 x4 x5) = (1 : Int32) := if_neg (own_nt hc44)
      refine ⟨T42, _, X42, N42, e42, fun t k => pre48 _ ?_⟩
      rw [qj0] at k
      exact k
  obtain ⟨cq49, kq49, q49a, q49b, q49c⟩ := isOf hZ e46 P25
  obtain ⟨_, _, ⟨T49, L49, k49, n49⟩, -, X49, ⟨Lc49, hQ49, l49, y49, z49⟩, st49⟩ := X46.virtualBack hx (y := (⟨"com/example/pulseline/pulseline/PacketFates", "forwardReceived", "()J"⟩ : MethodName)) (z := (⟨"com/example/pulseline/pulseline/PacketFates", "forwardReceived", "()J"⟩ : MethodName)) hown (mvT hZ (hw _ (List.mem_of_getElem? (i := 31) rfl))) (mvT hZ (hw _ (List.mem_of_getElem? (i := 32) rfl))) (notFace_of_selects (args := #[]) (mvT hZ (hw _ (List.mem_of_getElem? (i := 34) rfl)))) (mvT hZ (hw _ (List.mem_of_getElem? (i := 34) rfl))) (mvT hZ (hw _ (List.mem_of_getElem? (i := 33) rfl))) (by decide) (backOf (W := 2) (rm5 l Z a0 hw [] b1 x0 x2 h24 n0 Z24 P26 P28) hZ (hw _ (List.mem_of_getElem? (i := 35) rfl)) (hw _ (List.mem_of_getElem? (i := 2) rfl)) (by decide) (by decide)) q49a q49c (g := (mkF m 91 #[.val (.long x0), .second, .val (.long x1), .second, .val (.long x2), .second, .val (.long x3), .second, .val (.long x4), .second, .val (.long x5), .second, .val (.ref b1), .val (.ref b10), .val (.long (f0_v34 x0 x1 x2 x3 x4 x5)), .second, .val (.long (f0_v35 x0 x1 x2 x3 x4 x5)), .second, .val (.int (f0_j38 x0 x1 x2 x3 x4 x5)), .val (.int (f0_j45 x0 x1 x2 x3 x4 x5)), .unset] [(.ref b1), (.long (f0_v34 x0 x1 x2 x3 x4 x5))])) rfl (by rw [hml]; rfl) (Steps.refl _) (argsL := []) (rest := [(.long (f0_v34 x0 x1 x2 x3 x4 x5))]) (lenOf pd_2 rfl) rfl (by show 2 * 0 + _ ≤ _; exact Nat.le_of_eq rfl) (hb hby at_91) (fun _ _ => ⟨rfl, e46, (by decide : 2 + 0 ≤ _), (by decide : 12 + 0 ≤ _)⟩)
  dsimp only [Pt.U, Pt.locs, Pt.cells, Pt.slots] at X49 l49 y49 z49 st49 hQ49
  subst l49 y49 z49
  obtain ⟨rfl, Nq49, e49⟩ := hQ49
  have N49 := Fr.app N46 Nq49
  have pre50 : ∀ t, Steps p.tables e below (T49.setTop (mkF m 100 #[.val (.long x0), .second, .val (.long x1), .second, .val (.long x2), .second, .val (.long x3), .second, .val (.long x4), .second, .val (.long x5), .second, .val (.ref b1), .val (.ref b10), .val (.long (f0_v34 x0 x1 x2 x3 x4 x5)), .second, .val (.long (f0_v35 x0 x1 x2 x3 x4 x5)), .second, .val (.int (f0_j38 x0 x1 x2 x3 x4 x5)), .val (.int (f0_j45 x0 x1 x2 x3 x4 x5)), .unset] [(.int (own_cmp ((f0_v34 x0 x1 x2 x3 x4 x5) - (f5 x0 x2)) (x1 + x3)))])) t → Steps p.tables e below (s₁.setTop (entryFrame m #[(.long x0), (.long x1), (.long x2), (.long x3), (.long x4), (.long x5)] maxLocals)) t := by
    intro t k
    refine pre46 _ ?_
    show Steps p.tables e below (T46.setTop (mkF m 85 #[.val (.long x0), .second, .val (.long x1), .second, .val (.long x2), .second, .val (.long x3), .second, .val (.long x4), .second, .val (.long x5), .second, .val (.ref b1), .val (.ref b10), .val (.long (f0_v34 x0 x1 x2 x3 x4 x5)), .second, .val (.long (f0_v35 x0 x1 x2 x3 x4 x5)), .second, .val (.int (f0_j38 x0 x1 x2 x3 x4 x5)), .unset, .unset] [(.int (f0_j45 x0 x1 x2 x3 x4 x5))])) _
    refine XS.istore X46.here hx rfl (hb hby at_85) rfl (l' := #[.val (.long x0), .second, .val (.long x1), .second, .val (.long x2), .second, .val (.long x3), .second, .val (.long x4), .second, .val (.long x5), .second, .val (.ref b1), .val (.ref b10), .val (.long (f0_v34 x0 x1 x2 x3 x4 x5)), .second, .val (.long (f0_v35 x0 x1 x2 x3 x4 x5)), .second, .val (.int (f0_j38 x0 x1 x2 x3 x4 x5)), .val (.int (f0_j45 x0 x1 x2 x3 x4 x5)), .unset]) rfl ?_
    show Steps p.tables e below (T46.setTop (mkF m 87 #[.val (.long x0), .second, .val (.long x1), .second, .val (.long x2), .second, .val (.long x3), .second, .val (.long x4), .second, .val (.long x5), .second, .val (.ref b1), .val (.ref b10), .val (.long (f0_v34 x0 x1 x2 x3 x4 x5)), .second, .val (.long (f0_v35 x0 x1 x2 x3 x4 x5)), .second, .val (.int (f0_j38 x0 x1 x2 x3 x4 x5)), .val (.int (f0_j45 x0 x1 x2 x3 x4 x5)), .unset] [])) _
    refine XS.lload X46.here hx rfl (hb hby at_87) rfl ?_
    show Steps p.tables e below (T46.setTop (mkF m 89 #[.val (.long x0), .second, .val (.long x1), .second, .val (.long x2), .second, .val (.long x3), .second, .val (.long x4), .second, .val (.long x5), .second, .val (.ref b1), .val (.ref b10), .val (.long (f0_v34 x0 x1 x2 x3 x4 x5)), .second, .val (.long (f0_v35 x0 x1 x2 x3 x4 x5)), .second, .val (.int (f0_j38 x0 x1 x2 x3 x4 x5)), .val (.int (f0_j45 x0 x1 x2 x3 x4 x5)), .unset] [(.long (f0_v34 x0 x1 x2 x3 x4 x5))])) _
    refine XS.aload X46.here hx rfl (hb hby at_89) rfl rfl ?_
    show Steps p.tables e below (T46.setTop (mkF m 91 #[.val (.long x0), .second, .val (.long x1), .second, .val (.long x2), .second, .val (.long x3), .second, .val (.long x4), .second, .val (.long x5), .second, .val (.ref b1), .val (.ref b10), .val (.long (f0_v34 x0 x1 x2 x3 x4 x5)), .second, .val (.long (f0_v35 x0 x1 x2 x3 x4 x5)), .second, .val (.int (f0_j38 x0 x1 x2 x3 x4 x5)), .val (.int (f0_j45 x0 x1 x2 x3 x4 x5)), .unset] [(.ref b1), (.long (f0_v34 x0 x1 x2 x3 x4 x5))])) _
    refine st49.trans ?_
    show Steps p.tables e below (T49.setTop (mkF m 94 #[.val (.long x0), .second, .val (.long x1), .second, .val (.long x2), .second, .val (.long x3), .second, .val (.long x4), .second, .val (.long x5), .second, .val (.ref b1), .val (.ref b10), .val (.long (f0_v34 x0 x1 x2 x3 x4 x5)), .second, .val (.long (f0_v35 x0 x1 x2 x3 x4 x5)), .second, .val (.int (f0_j38 x0 x1 x2 x3 x4 x5)), .val (.int (f0_j45 x0 x1 x2 x3 x4 x5)), .unset] [(.long (f5 x0 x2)), (.long (f0_v34 x0 x1 x2 x3 x4 x5))])) _
    refine XS.lsub X49.here hx rfl (hb hby at_94) rfl ?_
    show Steps p.tables e below (T49.setTop (mkF m 95 #[.val (.long x0), .second, .val (.long x1), .second, .val (.long x2), .second, .val (.long x3), .second, .val (.long x4), .second, .val (.long x5), .second, .val (.ref b1), .val (.ref b10), .val (.long (f0_v34 x0 x1 x2 x3 x4 x5)), .second, .val (.long (f0_v35 x0 x1 x2 x3 x4 x5)), .second, .val (.int (f0_j38 x0 x1 x2 x3 x4 x5)), .val (.int (f0_j45 x0 x1 x2 x3 x4 x5)), .unset] [(.long ((f0_v34 x0 x1 x2 x3 x4 x5) - (f5 x0 x2)))])) _
    refine XS.lloadN X49.here hx rfl (hb hby at_95) rfl ?_
    show Steps p.tables e below (T49.setTop (mkF m 96 #[.val (.long x0), .second, .val (.long x1), .second, .val (.long x2), .second, .val (.long x3), .second, .val (.long x4), .second, .val (.long x5), .second, .val (.ref b1), .val (.ref b10), .val (.long (f0_v34 x0 x1 x2 x3 x4 x5)), .second, .val (.long (f0_v35 x0 x1 x2 x3 x4 x5)), .second, .val (.int (f0_j38 x0 x1 x2 x3 x4 x5)), .val (.int (f0_j45 x0 x1 x2 x3 x4 x5)), .unset] [(.long x1), (.long ((f0_v34 x0 x1 x2 x3 x4 x5) - (f5 x0 x2)))])) _
    refine XS.lload X49.here hx rfl (hb hby at_96) rfl ?_
    show Steps p.tables e below (T49.setTop (mkF m 98 #[.val (.long x0), .second, .val (.long x1), .second, .val (.long x2), .second, .val (.long x3), .second, .val (.long x4), .second, .val (.long x5), .second, .val (.ref b1), .val (.ref b10), .val (.long (f0_v34 x0 x1 x2 x3 x4 x5)), .second, .val (.long (f0_v35 x0 x1 x2 x3 x4 x5)), .second, .val (.int (f0_j38 x0 x1 x2 x3 x4 x5)), .val (.int (f0_j45 x0 x1 x2 x3 x4 x5)), .unset] [(.long x3), (.long x1), (.long ((f0_v34 x0 x1 x2 x3 x4 x5) - (f5 x0 x2)))])) _
    refine XS.ladd X49.here hx rfl (hb hby at_98) rfl ?_
    show Steps p.tables e below (T49.setTop (mkF m 99 #[.val (.long x0), .second, .val (.long x1), .second, .val (.long x2), .second, .val (.long x3), .second, .val (.long x4), .second, .val (.long x5), .second, .val (.ref b1), .val (.ref b10), .val (.long (f0_v34 x0 x1 x2 x3 x4 x5)), .second, .val (.long (f0_v35 x0 x1 x2 x3 x4 x5)), .second, .val (.int (f0_j38 x0 x1 x2 x3 x4 x5)), .val (.int (f0_j45 x0 x1 x2 x3 x4 x5)), .unset] [(.long (x1 + x3)), (.long ((f0_v34 x0 x1 x2 x3 x4 x5) - (f5 x0 x2)))])) _
    refine XS.lcmp X49.here hx rfl (hb hby at_99) rfl ?_
    exact k
  obtain ⟨T53, L53, X53, N53, e53, pre53⟩ : ∃ (T' : State) (L' : List Loc), Stand p l e room_1 s m #[(.long x0), (.long x1), (.long x2), (.long x3), (.long x4), (.long x5)] below meth c T' L' 2 12 ∧ Fr n0 L' ∧ T'.heap = h24 ∧ ∀ t, Steps p.tables e below (T'.setTop (mkF m 108 #[.val (.long x0), .second, .val (.long x1), .second, .val (.long x2), .second, .val (.long x3), .second, .val (.long x4), .second, .val (.long x5), .second, .val (.ref b1), .val (.ref b10), .val (.long (f0_v34 x0 x1 x2 x3 x4 x5)), .second, .val (.long (f0_v35 x0 x1 x2 x3 x4 x5)), .second, .val (.int (f0_j38 x0 x1 x2 x3 x4 x5)), .val (.int (f0_j45 x0 x1 x2 x3 x4 x5)), .unset] [(.int (f0_j52 x0 x1 x2 x3 x4 x5))])) t → Steps p.tables e below (s₁.setTop (entryFrame m #[(.long x0), (.long x1), (.long x2), (.long x3), (.long x4), (.long x5)] maxLocals)) t := by
    rcases Bool.eq_false_or_eq_true (ifCond.holds .ne (own_cmp ((f0_v34 x0 x1 x2 x3 x4 x5) - (f5 x0 x2)) (x1 + x3))) with hc51 | hc51
    · have pre54 : ∀ t, Steps p.tables e below (T49.setTop (mkF m 108 #[.val (.long x0), .second, .val (.long x1), .second, .val (.long x2), .second, .val (.long x3), .second, .val (.long x4), .second, .val (.long x5), .second, .val (.ref b1), .val (.ref b10), .val (.long (f0_v34 x0 x1 x2 x3 x4 x5)), .second, .val (.long (f0_v35 x0 x1 x2 x3 x4 x5)), .second, .val (.int (f0_j38 x0 x1 x2 x3 x4 x5)), .val (.int (f0_j45 x0 x1 x2 x3 x4 x5)), .unset] [(.int (0 : Int32))])) t → Steps p.tables e below (s₁.setTop (entryFrame m #[(.long x0), (.long x1), (.long x2), (.long x3), (.long x4), (.long x5)] maxLocals)) t := by
        intro t k
        refine pre50 _ ?_
        show Steps p.tables e below (T49.setTop (mkF m 100 #[.val (.long x0), .second, .val (.long x1), .second, .val (.long x2), .second, .val (.long x3), .second, .val (.long x4), .second, .val (.long x5), .second, .val (.ref b1), .val (.ref b10), .val (.long (f0_v34 x0 x1 x2 x3 x4 x5)), .second, .val (.long (f0_v35 x0 x1 x2 x3 x4 x5)), .second, .val (.int (f0_j38 x0 x1 x2 x3 x4 x5)), .val (.int (f0_j45 x0 x1 x2 x3 x4 x5)), .unset] [(.int (own_cmp ((f0_v34 x0 x1 x2 x3 x4 x5) - (f5 x0 x2)) (x1 + x3)))])) _
        refine XS.ifYes X49.here hx rfl (pc0 := 100) (pc' := 107) rfl (hb hby at_100) rfl hc51 (by decide) (by decide) ?_
        show Steps p.tables e below (T49.setTop (mkF m 107 #[.val (.long x0), .second, .val (.long x1), .second, .val (.long x2), .second, .val (.long x3), .second, .val (.long x4), .second, .val (.long x5), .second, .val (.ref b1), .val (.ref b10), .val (.long (f0_v34 x0 x1 x2 x3 x4 x5)), .second, .val (.long (f0_v35 x0 x1 x2 x3 x4 x5)), .second, .val (.int (f0_j38 x0 x1 x2 x3 x4 x5)), .val (.int (f0_j45 x0 x1 x2 x3 x4 x5)), .unset] [])) _
        refine XS.iconst X49.here hx rfl (hb hby at_107) ?_
        exact k
      have qj0 : (f0_j52 x0 x1 x2 x3 x4 x5) = (0 : Int32) := if_pos hc51
      refine ⟨T49, _, X49, N49, e49, fun t k => pre54 _ ?_⟩
      rw [qj0] at k
      exact k
    · have pre55 : ∀ t, Steps p.tables e below (T49.setTop (mkF m 108 #[.val (.long x0), .second, .val (.long x1), .second, .val (.long x2), .second, .val (.long x3), .second, .val (.long x4), .second, .val (.long x5), .second, .val (.ref b1), .val (.ref b10), .val (.long (f0_v34 x0 x1 x2 x3 x4 x5)), .second, .val (.long (f0_v35 x0 x1 x2 x3 x4 x5)), .second, .val (.int (f0_j38 x0 x1 x2 x3 x4 x5)), .val (.int (f0_j45 x0 x1 x2 x3 x4 x5)), .unset] [(.int (1 : Int32))])) t → Steps p.tables e below (s₁.setTop (entryFrame m #[(.long x0), (.long x1), (.long x2), (.long x3), (.long x4), (.long x5)] maxLocals)) t := by
        intro t k
        refine pre50 _ ?_
        show Steps p.tables e below (T49.setTop (mkF m 100 #[.val (.long x0), .second, .val (.long x1), .second, .val (.long x2), .second, .val (.long x3), .second, .val (.long x4), .second, .val (.long x5), .second, .val (.ref b1), .val (.ref b10), .val (.long (f0_v34 x0 x1 x2 x3 x4 x5)), .second, .val (.long (f0_v35 x0 x1 x2 x3 x4 x5)), .second, .val (.int (f0_j38 x0 x1 x2 x3 x4 x5)), .val (.int (f0_j45 x0 x1 x2 x3 x4 x5)), .unset] [(.int (own_cmp ((f0_v34 x0 x1 x2 x3 x4 x5) - (f5 x0 x2)) (x1 + x3)))])) _
        refine XS.ifNo X49.here hx rfl (hb hby at_100) rfl hc51 ?_
        show Steps p.tables e below (T49.setTop (mkF m 103 #[.val (.long x0), .second, .val (.long x1), .second, .val (.long x2), .second, .val (.long x3), .second, .val (.long x4), .second, .val (.long x5), .second, .val (.ref b1), .val (.ref b10), .val (.long (f0_v34 x0 x1 x2 x3 x4 x5)), .second, .val (.long (f0_v35 x0 x1 x2 x3 x4 x5)), .second, .val (.int (f0_j38 x0 x1 x2 x3 x4 x5)), .val (.int (f0_j45 x0 x1 x2 x3 x4 x5)), .unset] [])) _
        refine XS.iconst X49.here hx rfl (hb hby at_103) ?_
        show Steps p.tables e below (T49.setTop (mkF m 104 #[.val (.long x0), .second, .val (.long x1), .second, .val (.long x2), .second, .val (.long x3), .second, .val (.long x4), .second, .val (.long x5), .second, .val (.ref b1), .val (.ref b10), .val (.long (f0_v34 x0 x1 x2 x3 x4 x5)), .second, .val (.long (f0_v35 x0 x1 x2 x3 x4 x5)), .second, .val (.int (f0_j38 x0 x1 x2 x3 x4 x5)), .val (.int (f0_j45 x0 x1 x2 x3 x4 x5)), .unset] [(.int (1 : Int32))])) _
        refine XS.goto X49.here hx rfl (pc0 := 104) (pc' := 108) rfl (hb hby at_104) (by decide) (by decide) ?_
        exact k
      have qj0 : (f0_j52 x0 x1 x2 x3 x4 x5) = (1 : Int32) := if_neg (own_nt hc51)
      refine ⟨T49, _, X49, N49, e49, fun t k => pre55 _ ?_⟩
      rw [qj0] at k
      exact k
  have pre56 : ∀ t, Steps p.tables e below (T53.setTop (mkF m 112 #[.val (.long x0), .second, .val (.long x1), .second, .val (.long x2), .second, .val (.long x3), .second, .val (.long x4), .second, .val (.long x5), .second, .val (.ref b1), .val (.ref b10), .val (.long (f0_v34 x0 x1 x2 x3 x4 x5)), .second, .val (.long (f0_v35 x0 x1 x2 x3 x4 x5)), .second, .val (.int (f0_j38 x0 x1 x2 x3 x4 x5)), .val (.int (f0_j45 x0 x1 x2 x3 x4 x5)), .val (.int (f0_j52 x0 x1 x2 x3 x4 x5))] [(.int (f0_j38 x0 x1 x2 x3 x4 x5))])) t → Steps p.tables e below (s₁.setTop (entryFrame m #[(.long x0), (.long x1), (.long x2), (.long x3), (.long x4), (.long x5)] maxLocals)) t := by
    intro t k
    refine pre53 _ ?_
    show Steps p.tables e below (T53.setTop (mkF m 108 #[.val (.long x0), .second, .val (.long x1), .second, .val (.long x2), .second, .val (.long x3), .second, .val (.long x4), .second, .val (.long x5), .second, .val (.ref b1), .val (.ref b10), .val (.long (f0_v34 x0 x1 x2 x3 x4 x5)), .second, .val (.long (f0_v35 x0 x1 x2 x3 x4 x5)), .second, .val (.int (f0_j38 x0 x1 x2 x3 x4 x5)), .val (.int (f0_j45 x0 x1 x2 x3 x4 x5)), .unset] [(.int (f0_j52 x0 x1 x2 x3 x4 x5))])) _
    refine XS.istore X53.here hx rfl (hb hby at_108) rfl (l' := #[.val (.long x0), .second, .val (.long x1), .second, .val (.long x2), .second, .val (.long x3), .second, .val (.long x4), .second, .val (.long x5), .second, .val (.ref b1), .val (.ref b10), .val (.long (f0_v34 x0 x1 x2 x3 x4 x5)), .second, .val (.long (f0_v35 x0 x1 x2 x3 x4 x5)), .second, .val (.int (f0_j38 x0 x1 x2 x3 x4 x5)), .val (.int (f0_j45 x0 x1 x2 x3 x4 x5)), .val (.int (f0_j52 x0 x1 x2 x3 x4 x5))]) rfl ?_
    show Steps p.tables e below (T53.setTop (mkF m 110 #[.val (.long x0), .second, .val (.long x1), .second, .val (.long x2), .second, .val (.long x3), .second, .val (.long x4), .second, .val (.long x5), .second, .val (.ref b1), .val (.ref b10), .val (.long (f0_v34 x0 x1 x2 x3 x4 x5)), .second, .val (.long (f0_v35 x0 x1 x2 x3 x4 x5)), .second, .val (.int (f0_j38 x0 x1 x2 x3 x4 x5)), .val (.int (f0_j45 x0 x1 x2 x3 x4 x5)), .val (.int (f0_j52 x0 x1 x2 x3 x4 x5))] [])) _
    refine XS.iload X53.here hx rfl (hb hby at_110) rfl ?_
    exact k
  obtain ⟨T70, L70, X70, N70, e70, pre70⟩ : ∃ (T' : State) (L' : List Loc), Stand p l e room_1 s m #[(.long x0), (.long x1), (.long x2), (.long x3), (.long x4), (.long x5)] below meth c T' L' 2 12 ∧ Fr n0 L' ∧ T'.heap = h24 ∧ ∀ t, Steps p.tables e below (T'.setTop (mkF m 130 #[.val (.long x0), .second, .val (.long x1), .second, .val (.long x2), .second, .val (.long x3), .second, .val (.long x4), .second, .val (.long x5), .second, .val (.ref b1), .val (.ref b10), .val (.long (f0_v34 x0 x1 x2 x3 x4 x5)), .second, .val (.long (f0_v35 x0 x1 x2 x3 x4 x5)), .second, .val (.int (f0_j38 x0 x1 x2 x3 x4 x5)), .val (.int (f0_j45 x0 x1 x2 x3 x4 x5)), .val (.int (f0_j52 x0 x1 x2 x3 x4 x5))] [(.int (f0_j69 x0 x1 x2 x3 x4 x5))])) t → Steps p.tables e below (s₁.setTop (entryFrame m #[(.long x0), (.long x1), (.long x2), (.long x3), (.long x4), (.long x5)] maxLocals)) t := by
    rcases Bool.eq_false_or_eq_true (ifCond.holds .eq (f0_j38 x0 x1 x2 x3 x4 x5)) with hc57 | hc57
    · have pre71 : ∀ t, Steps p.tables e below (T53.setTop (mkF m 130 #[.val (.long x0), .second, .val (.long x1), .second, .val (.long x2), .second, .val (.long x3), .second, .val (.long x4), .second, .val (.long x5), .second, .val (.ref b1), .val (.ref b10), .val (.long (f0_v34 x0 x1 x2 x3 x4 x5)), .second, .val (.long (f0_v35 x0 x1 x2 x3 x4 x5)), .second, .val (.int (f0_j38 x0 x1 x2 x3 x4 x5)), .val (.int (f0_j45 x0 x1 x2 x3 x4 x5)), .val (.int (f0_j52 x0 x1 x2 x3 x4 x5))] [(.int (0 : Int32))])) t → Steps p.tables e below (s₁.setTop (entryFrame m #[(.long x0), (.long x1), (.long x2), (.long x3), (.long x4), (.long x5)] maxLocals)) t := by
        intro t k
        refine pre56 _ ?_
        show Steps p.tables e below (T53.setTop (mkF m 112 #[.val (.long x0), .second, .val (.long x1), .second, .val (.long x2), .second, .val (.long x3), .second, .val (.long x4), .second, .val (.long x5), .second, .val (.ref b1), .val (.ref b10), .val (.long (f0_v34 x0 x1 x2 x3 x4 x5)), .second, .val (.long (f0_v35 x0 x1 x2 x3 x4 x5)), .second, .val (.int (f0_j38 x0 x1 x2 x3 x4 x5)), .val (.int (f0_j45 x0 x1 x2 x3 x4 x5)), .val (.int (f0_j52 x0 x1 x2 x3 x4 x5))] [(.int (f0_j38 x0 x1 x2 x3 x4 x5))])) _
        refine XS.ifYes X53.here hx rfl (pc0 := 112) (pc' := 129) rfl (hb hby at_112) rfl hc57 (by decide) (by decide) ?_
        show Steps p.tables e below (T53.setTop (mkF m 129 #[.val (.long x0), .second, .val (.long x1), .second, .val (.long x2), .second, .val (.long x3), .second, .val (.long x4), .second, .val (.long x5), .second, .val (.ref b1), .val (.ref b10), .val (.long (f0_v34 x0 x1 x2 x3 x4 x5)), .second, .val (.long (f0_v35 x0 x1 x2 x3 x4 x5)), .second, .val (.int (f0_j38 x0 x1 x2 x3 x4 x5)), .val (.int (f0_j45 x0 x1 x2 x3 x4 x5)), .val (.int (f0_j52 x0 x1 x2 x3 x4 x5))] [])) _
        refine XS.iconst X53.here hx rfl (hb hby at_129) ?_
        exact k
      have qj0 : (f0_j69 x0 x1 x2 x3 x4 x5) = (0 : Int32) := if_pos hc57
      refine ⟨T53, _, X53, N53, e53, fun t k => pre71 _ ?_⟩
      rw [qj0] at k
      exact k
    · have pre58 : ∀ t, Steps p.tables e below (T53.setTop (mkF m 117 #[.val (.long x0), .second, .val (.long x1), .second, .val (.long x2), .second, .val (.long x3), .second, .val (.long x4), .second, .val (.long x5), .second, .val (.ref b1), .val (.ref b10), .val (.long (f0_v34 x0 x1 x2 x3 x4 x5)), .second, .val (.long (f0_v35 x0 x1 x2 x3 x4 x5)), .second, .val (.int (f0_j38 x0 x1 x2 x3 x4 x5)), .val (.int (f0_j45 x0 x1 x2 x3 x4 x5)), .val (.int (f0_j52 x0 x1 x2 x3 x4 x5))] [(.int (f0_j45 x0 x1 x2 x3 x4 x5))])) t → Steps p.tables e below (s₁.setTop (entryFrame m #[(.long x0), (.long x1), (.long x2), (.long x3), (.long x4), (.long x5)] maxLocals)) t := by
        intro t k
        refine pre56 _ ?_
        show Steps p.tables e below (T53.setTop (mkF m 112 #[.val (.long x0), .second, .val (.long x1), .second, .val (.long x2), .second, .val (.long x3), .second, .val (.long x4), .second, .val (.long x5), .second, .val (.ref b1), .val (.ref b10), .val (.long (f0_v34 x0 x1 x2 x3 x4 x5)), .second, .val (.long (f0_v35 x0 x1 x2 x3 x4 x5)), .second, .val (.int (f0_j38 x0 x1 x2 x3 x4 x5)), .val (.int (f0_j45 x0 x1 x2 x3 x4 x5)), .val (.int (f0_j52 x0 x1 x2 x3 x4 x5))] [(.int (f0_j38 x0 x1 x2 x3 x4 x5))])) _
        refine XS.ifNo X53.here hx rfl (hb hby at_112) rfl hc57 ?_
        show Steps p.tables e below (T53.setTop (mkF m 115 #[.val (.long x0), .second, .val (.long x1), .second, .val (.long x2), .second, .val (.long x3), .second, .val (.long x4), .second, .val (.long x5), .second, .val (.ref b1), .val (.ref b10), .val (.long (f0_v34 x0 x1 x2 x3 x4 x5)), .second, .val (.long (f0_v35 x0 x1 x2 x3 x4 x5)), .second, .val (.int (f0_j38 x0 x1 x2 x3 x4 x5)), .val (.int (f0_j45 x0 x1 x2 x3 x4 x5)), .val (.int (f0_j52 x0 x1 x2 x3 x4 x5))] [])) _
        refine XS.iload X53.here hx rfl (hb hby at_115) rfl ?_
        exact k
      obtain ⟨T67, L67, X67, N67, e67, pre67⟩ : ∃ (T' : State) (L' : List Loc), Stand p l e room_1 s m #[(.long x0), (.long x1), (.long x2), (.long x3), (.long x4), (.long x5)] below meth c T' L' 2 12 ∧ Fr n0 L' ∧ T'.heap = h24 ∧ ∀ t, Steps p.tables e below (T'.setTop (mkF m 130 #[.val (.long x0), .second, .val (.long x1), .second, .val (.long x2), .second, .val (.long x3), .second, .val (.long x4), .second, .val (.long x5), .second, .val (.ref b1), .val (.ref b10), .val (.long (f0_v34 x0 x1 x2 x3 x4 x5)), .second, .val (.long (f0_v35 x0 x1 x2 x3 x4 x5)), .second, .val (.int (f0_j38 x0 x1 x2 x3 x4 x5)), .val (.int (f0_j45 x0 x1 x2 x3 x4 x5)), .val (.int (f0_j52 x0 x1 x2 x3 x4 x5))] [(.int (f0_j66 x0 x1 x2 x3 x4 x5))])) t → Steps p.tables e below (s₁.setTop (entryFrame m #[(.long x0), (.long x1), (.long x2), (.long x3), (.long x4), (.long x5)] maxLocals)) t := by
        rcases Bool.eq_false_or_eq_true (ifCond.holds .eq (f0_j45 x0 x1 x2 x3 x4 x5)) with hc59 | hc59
        · have pre68 : ∀ t, Steps p.tables e below (T53.setTop (mkF m 130 #[.val (.long x0), .second, .val (.long x1), .second, .val (.long x2), .second, .val (.long x3), .second, .val (.long x4), .second, .val (.long x5), .second, .val (.ref b1), .val (.ref b10), .val (.long (f0_v34 x0 x1 x2 x3 x4 x5)), .second, .val (.long (f0_v35 x0 x1 x2 x3 x4 x5)), .second, .val (.int (f0_j38 x0 x1 x2 x3 x4 x5)), .val (.int (f0_j45 x0 x1 x2 x3 x4 x5)), .val (.int (f0_j52 x0 x1 x2 x3 x4 x5))] [(.int (0 : Int32))])) t → Steps p.tables e below (s₁.setTop (entryFrame m #[(.long x0), (.long x1), (.long x2), (.long x3), (.long x4), (.long x5)] maxLocals)) t := by
            intro t k
            refine pre58 _ ?_
            show Steps p.tables e below (T53.setTop (mkF m 117 #[.val (.long x0), .second, .val (.long x1), .second, .val (.long x2), .second, .val (.long x3), .second, .val (.long x4), .second, .val (.long x5), .second, .val (.ref b1), .val (.ref b10), .val (.long (f0_v34 x0 x1 x2 x3 x4 x5)), .second, .val (.long (f0_v35 x0 x1 x2 x3 x4 x5)), .second, .val (.int (f0_j38 x0 x1 x2 x3 x4 x5)), .val (.int (f0_j45 x0 x1 x2 x3 x4 x5)), .val (.int (f0_j52 x0 x1 x2 x3 x4 x5))] [(.int (f0_j45 x0 x1 x2 x3 x4 x5))])) _
            refine XS.ifYes X53.here hx rfl (pc0 := 117) (pc' := 129) rfl (hb hby at_117) rfl hc59 (by decide) (by decide) ?_
            show Steps p.tables e below (T53.setTop (mkF m 129 #[.val (.long x0), .second, .val (.long x1), .second, .val (.long x2), .second, .val (.long x3), .second, .val (.long x4), .second, .val (.long x5), .second, .val (.ref b1), .val (.ref b10), .val (.long (f0_v34 x0 x1 x2 x3 x4 x5)), .second, .val (.long (f0_v35 x0 x1 x2 x3 x4 x5)), .second, .val (.int (f0_j38 x0 x1 x2 x3 x4 x5)), .val (.int (f0_j45 x0 x1 x2 x3 x4 x5)), .val (.int (f0_j52 x0 x1 x2 x3 x4 x5))] [])) _
            refine XS.iconst X53.here hx rfl (hb hby at_129) ?_
            exact k
          have qj0 : (f0_j66 x0 x1 x2 x3 x4 x5) = (0 : Int32) := if_pos hc59
          refine ⟨T53, _, X53, N53, e53, fun t k => pre68 _ ?_⟩
          rw [qj0] at k
          exact k
        · have pre60 : ∀ t, Steps p.tables e below (T53.setTop (mkF m 122 #[.val (.long x0), .second, .val (.long x1), .second, .val (.long x2), .second, .val (.long x3), .second, .val (.long x4), .second, .val (.long x5), .second, .val (.ref b1), .val (.ref b10), .val (.long (f0_v34 x0 x1 x2 x3 x4 x5)), .second, .val (.long (f0_v35 x0 x1 x2 x3 x4 x5)), .second, .val (.int (f0_j38 x0 x1 x2 x3 x4 x5)), .val (.int (f0_j45 x0 x1 x2 x3 x4 x5)), .val (.int (f0_j52 x0 x1 x2 x3 x4 x5))] [(.int (f0_j52 x0 x1 x2 x3 x4 x5))])) t → Steps p.tables e below (s₁.setTop (entryFrame m #[(.long x0), (.long x1), (.long x2), (.long x3), (.long x4), (.long x5)] maxLocals)) t := by
            intro t k
            refine pre58 _ ?_
            show Steps p.tables e below (T53.setTop (mkF m 117 #[.val (.long x0), .second, .val (.long x1), .second, .val (.long x2), .second, .val (.long x3), .second, .val (.long x4), .second, .val (.long x5), .second, .val (.ref b1), .val (.ref b10), .val (.long (f0_v34 x0 x1 x2 x3 x4 x5)), .second, .val (.long (f0_v35 x0 x1 x2 x3 x4 x5)), .second, .val (.int (f0_j38 x0 x1 x2 x3 x4 x5)), .val (.int (f0_j45 x0 x1 x2 x3 x4 x5)), .val (.int (f0_j52 x0 x1 x2 x3 x4 x5))] [(.int (f0_j45 x0 x1 x2 x3 x4 x5))])) _
            refine XS.ifNo X53.here hx rfl (hb hby at_117) rfl hc59 ?_
            show Steps p.tables e below (T53.setTop (mkF m 120 #[.val (.long x0), .second, .val (.long x1), .second, .val (.long x2), .second, .val (.long x3), .second, .val (.long x4), .second, .val (.long x5), .second, .val (.ref b1), .val (.ref b10), .val (.long (f0_v34 x0 x1 x2 x3 x4 x5)), .second, .val (.long (f0_v35 x0 x1 x2 x3 x4 x5)), .second, .val (.int (f0_j38 x0 x1 x2 x3 x4 x5)), .val (.int (f0_j45 x0 x1 x2 x3 x4 x5)), .val (.int (f0_j52 x0 x1 x2 x3 x4 x5))] [])) _
            refine XS.iload X53.here hx rfl (hb hby at_120) rfl ?_
            exact k
          obtain ⟨T63, L63, X63, N63, e63, pre63⟩ : ∃ (T' : State) (L' : List Loc), Stand p l e room_1 s m #[(.long x0), (.long x1), (.long x2), (.long x3), (.long x4), (.long x5)] below meth c T' L' 2 12 ∧ Fr n0 L' ∧ T'.heap = h24 ∧ ∀ t, Steps p.tables e below (T'.setTop (mkF m 130 #[.val (.long x0), .second, .val (.long x1), .second, .val (.long x2), .second, .val (.long x3), .second, .val (.long x4), .second, .val (.long x5), .second, .val (.ref b1), .val (.ref b10), .val (.long (f0_v34 x0 x1 x2 x3 x4 x5)), .second, .val (.long (f0_v35 x0 x1 x2 x3 x4 x5)), .second, .val (.int (f0_j38 x0 x1 x2 x3 x4 x5)), .val (.int (f0_j45 x0 x1 x2 x3 x4 x5)), .val (.int (f0_j52 x0 x1 x2 x3 x4 x5))] [(.int (f0_j62 x0 x1 x2 x3 x4 x5))])) t → Steps p.tables e below (s₁.setTop (entryFrame m #[(.long x0), (.long x1), (.long x2), (.long x3), (.long x4), (.long x5)] maxLocals)) t := by
            rcases Bool.eq_false_or_eq_true (ifCond.holds .eq (f0_j52 x0 x1 x2 x3 x4 x5)) with hc61 | hc61
            · have pre64 : ∀ t, Steps p.tables e below (T53.setTop (mkF m 130 #[.val (.long x0), .second, .val (.long x1), .second, .val (.long x2), .second, .val (.long x3), .second, .val (.long x4), .second, .val (.long x5), .second, .val (.ref b1), .val (.ref b10), .val (.long (f0_v34 x0 x1 x2 x3 x4 x5)), .second, .val (.long (f0_v35 x0 x1 x2 x3 x4 x5)), .second, .val (.int (f0_j38 x0 x1 x2 x3 x4 x5)), .val (.int (f0_j45 x0 x1 x2 x3 x4 x5)), .val (.int (f0_j52 x0 x1 x2 x3 x4 x5))] [(.int (0 : Int32))])) t → Steps p.tables e below (s₁.setTop (entryFrame m #[(.long x0), (.long x1), (.long x2), (.long x3), (.long x4), (.long x5)] maxLocals)) t := by
                intro t k
                refine pre60 _ ?_
                show Steps p.tables e below (T53.setTop (mkF m 122 #[.val (.long x0), .second, .val (.long x1), .second, .val (.long x2), .second, .val (.long x3), .second, .val (.long x4), .second, .val (.long x5), .second, .val (.ref b1), .val (.ref b10), .val (.long (f0_v34 x0 x1 x2 x3 x4 x5)), .second, .val (.long (f0_v35 x0 x1 x2 x3 x4 x5)), .second, .val (.int (f0_j38 x0 x1 x2 x3 x4 x5)), .val (.int (f0_j45 x0 x1 x2 x3 x4 x5)), .val (.int (f0_j52 x0 x1 x2 x3 x4 x5))] [(.int (f0_j52 x0 x1 x2 x3 x4 x5))])) _
                refine XS.ifYes X53.here hx rfl (pc0 := 122) (pc' := 129) rfl (hb hby at_122) rfl hc61 (by decide) (by decide) ?_
                show Steps p.tables e below (T53.setTop (mkF m 129 #[.val (.long x0), .second, .val (.long x1), .second, .val (.long x2), .second, .val (.long x3), .second, .val (.long x4), .second, .val (.long x5), .second, .val (.ref b1), .val (.ref b10), .val (.long (f0_v34 x0 x1 x2 x3 x4 x5)), .second, .val (.long (f0_v35 x0 x1 x2 x3 x4 x5)), .second, .val (.int (f0_j38 x0 x1 x2 x3 x4 x5)), .val (.int (f0_j45 x0 x1 x2 x3 x4 x5)), .val (.int (f0_j52 x0 x1 x2 x3 x4 x5))] [])) _
                refine XS.iconst X53.here hx rfl (hb hby at_129) ?_
                exact k
              have qj0 : (f0_j62 x0 x1 x2 x3 x4 x5) = (0 : Int32) := if_pos hc61
              refine ⟨T53, _, X53, N53, e53, fun t k => pre64 _ ?_⟩
              rw [qj0] at k
              exact k
            · have pre65 : ∀ t, Steps p.tables e below (T53.setTop (mkF m 130 #[.val (.long x0), .second, .val (.long x1), .second, .val (.long x2), .second, .val (.long x3), .second, .val (.long x4), .second, .val (.long x5), .second, .val (.ref b1), .val (.ref b10), .val (.long (f0_v34 x0 x1 x2 x3 x4 x5)), .second, .val (.long (f0_v35 x0 x1 x2 x3 x4 x5)), .second, .val (.int (f0_j38 x0 x1 x2 x3 x4 x5)), .val (.int (f0_j45 x0 x1 x2 x3 x4 x5)), .val (.int (f0_j52 x0 x1 x2 x3 x4 x5))] [(.int (1 : Int32))])) t → Steps p.tables e below (s₁.setTop (entryFrame m #[(.long x0), (.long x1), (.long x2), (.long x3), (.long x4), (.long x5)] maxLocals)) t := by
                intro t k
                refine pre60 _ ?_
                show Steps p.tables e below (T53.setTop (mkF m 122 #[.val (.long x0), .second, .val (.long x1), .second, .val (.long x2), .second, .val (.long x3), .second, .val (.long x4), .second, .val (.long x5), .second, .val (.ref b1), .val (.ref b10), .val (.long (f0_v34 x0 x1 x2 x3 x4 x5)), .second, .val (.long (f0_v35 x0 x1 x2 x3 x4 x5)), .second, .val (.int (f0_j38 x0 x1 x2 x3 x4 x5)), .val (.int (f0_j45 x0 x1 x2 x3 x4 x5)), .val (.int (f0_j52 x0 x1 x2 x3 x4 x5))] [(.int (f0_j52 x0 x1 x2 x3 x4 x5))])) _
                refine XS.ifNo X53.here hx rfl (hb hby at_122) rfl hc61 ?_
                show Steps p.tables e below (T53.setTop (mkF m 125 #[.val (.long x0), .second, .val (.long x1), .second, .val (.long x2), .second, .val (.long x3), .second, .val (.long x4), .second, .val (.long x5), .second, .val (.ref b1), .val (.ref b10), .val (.long (f0_v34 x0 x1 x2 x3 x4 x5)), .second, .val (.long (f0_v35 x0 x1 x2 x3 x4 x5)), .second, .val (.int (f0_j38 x0 x1 x2 x3 x4 x5)), .val (.int (f0_j45 x0 x1 x2 x3 x4 x5)), .val (.int (f0_j52 x0 x1 x2 x3 x4 x5))] [])) _
                refine XS.iconst X53.here hx rfl (hb hby at_125) ?_
                show Steps p.tables e below (T53.setTop (mkF m 126 #[.val (.long x0), .second, .val (.long x1), .second, .val (.long x2), .second, .val (.long x3), .second, .val (.long x4), .second, .val (.long x5), .second, .val (.ref b1), .val (.ref b10), .val (.long (f0_v34 x0 x1 x2 x3 x4 x5)), .second, .val (.long (f0_v35 x0 x1 x2 x3 x4 x5)), .second, .val (.int (f0_j38 x0 x1 x2 x3 x4 x5)), .val (.int (f0_j45 x0 x1 x2 x3 x4 x5)), .val (.int (f0_j52 x0 x1 x2 x3 x4 x5))] [(.int (1 : Int32))])) _
                refine XS.goto X53.here hx rfl (pc0 := 126) (pc' := 130) rfl (hb hby at_126) (by decide) (by decide) ?_
                exact k
              have qj0 : (f0_j62 x0 x1 x2 x3 x4 x5) = (1 : Int32) := if_neg (own_nt hc61)
              refine ⟨T53, _, X53, N53, e53, fun t k => pre65 _ ?_⟩
              rw [qj0] at k
              exact k
          have qj0 : (f0_j66 x0 x1 x2 x3 x4 x5) = (f0_j62 x0 x1 x2 x3 x4 x5) := if_neg (own_nt hc59)
          refine ⟨T63, _, X63, N63, e63, fun t k => pre63 _ ?_⟩
          rw [qj0] at k
          exact k
      have qj0 : (f0_j69 x0 x1 x2 x3 x4 x5) = (f0_j66 x0 x1 x2 x3 x4 x5) := if_neg (own_nt hc57)
      refine ⟨T67, _, X67, N67, e67, fun t k => pre67 _ ?_⟩
      rw [qj0] at k
      exact k
  obtain ⟨fs, hr, hrun, hended, hW, hsame⟩ := X70.leave (v := some (.int (nar .boolean (f0_j69 x0 x1 x2 x3 x4 x5)))) (fun h => by rw [hret] at h; cases h)
  refine ⟨_, _, pre70 _ ?_, hrun, hended, _, _, rfl, ?_, ⟨_, rfl⟩, hW, hsame.mono (by decide) (by decide)⟩
  · show Steps p.tables e below (T70.setTop (mkF m 130 #[.val (.long x0), .second, .val (.long x1), .second, .val (.long x2), .second, .val (.long x3), .second, .val (.long x4), .second, .val (.long x5), .second, .val (.ref b1), .val (.ref b10), .val (.long (f0_v34 x0 x1 x2 x3 x4 x5)), .second, .val (.long (f0_v35 x0 x1 x2 x3 x4 x5)), .second, .val (.int (f0_j38 x0 x1 x2 x3 x4 x5)), .val (.int (f0_j45 x0 x1 x2 x3 x4 x5)), .val (.int (f0_j52 x0 x1 x2 x3 x4 x5))] [(.int (f0_j69 x0 x1 x2 x3 x4 x5))])) _
    exact retN X70 hx (t := .boolean) hret (by simp) (hb hby at_130) hr
  · show Q0 Z x0 x1 x2 x3 x4 x5 h0 n0 _ T70.heap _
    rw [e70]
    have rr : f0 x0 x1 x2 x3 x4 x5 = (nar .boolean (f0_j69 x0 x1 x2 x3 x4 x5)) := rfl
    exact ⟨congrArg (fun z => some (Value.int z)) rr.symm, N70⟩
theorem own_law (x0 x1 x2 x3 x4 x5 : Int64) : f0 x0 x1 x2 x3 x4 x5 = 1 := by
  have e0 : (0 : Int32).toInt = 0 := rfl
  have e1 : (1 : Int32).toInt = 1 := rfl
  have a1 := c_ladd x0 x1
  have a2 := c_ladd (x0 + x1) x2
  have a3 := c_ladd (x0 + x1 + x2) x3
  have r1 := rng64 (x0 + x1)
  have r2 := rng64 (x0 + x1 + x2)
  have r3 := rng64 (x0 + x1 + x2 + x3)
  have s : (f0_v34 x0 x1 x2 x3 x4 x5) = x0 + x1 + x2 + x3 := rfl
  have h1 : f0_j38 x0 x1 x2 x3 x4 x5 = 1 := by
    have b1 := c_ladd x1 x0
    have b2 := c_ladd x2 (x1 + x0)
    have b3 := c_ladd x3 (x2 + (x1 + x0))
    have q1 := rng64 (x1 + x0)
    have q2 := rng64 (x2 + (x1 + x0))
    have q3 := rng64 (x3 + (x2 + (x1 + x0)))
    unfold f0_j38 f0_v35
    exact if_neg (by rw [own_cne, s]; omega)
  have h2 : f0_j45 x0 x1 x2 x3 x4 x5 = 1 := by
    unfold f0_j45 f0_v34
    exact if_neg (by rw [own_cne]; exact fun q => q rfl)
  have h3 : f0_j52 x0 x1 x2 x3 x4 x5 = 1 := by
    have b1 := c_ladd x0 x2
    have b2 := c_lsub (x0 + x1 + x2 + x3) (x0 + x2)
    have b3 := c_ladd x1 x3
    have q1 := rng64 (x0 + x2)
    have q2 := rng64 (x0 + x1 + x2 + x3 - (x0 + x2))
    have q3 := rng64 (x1 + x3)
    unfold f0_j52 f5
    exact if_neg (by rw [own_cne, s]; omega)
  have h4 : f0_j69 x0 x1 x2 x3 x4 x5 = 1 := by
    unfold f0_j69 f0_j66 f0_j62
    rw [h1, h2, h3]
    rfl
  exact own_nar1 h4
set_option maxRecDepth 65536 in
set_option maxHeartbeats 40000000 in
theorem comes_1 {Post : Tables → Env → Array Value → State → Outcome → State → Prop} (hpost : ∀ tb e args s v u, (limb_1_1.after args s (.returned v) u = true ∧ limb_1_2.after args s (.returned v) u = true ∧ True) → FrameEnd s (.returned v) u (Jvm.fieldLocs frame_1_writes args s ++ Jvm.arrayLocs frame_1_arrays args s ++ Jvm.staticLocs frame_1_statics s) 16 128 → Post tb e args s (.returned v) u) :
    ArmFor flags0 classFile x code maxLocals ret World_1 tables_1 room_1 Calls_1 rest_1 Pre_1 Post := by
  intro l hfl _ _ p e ha hc hk s m args below hf hA hF happ hP
  obtain ⟨hcalls, hrest, hpre⟩ := hP
  obtain ⟨-, -, -, hnamed, -, -, -, hat⟩ := (Spec.applies_iff hf).mp happ
  obtain ⟨hg, hn⟩ := and_e (Cond.before_iff.mp (show (Jvm.Cond.and given_1 narrow_1).before args s = true from hpre))
  obtain ⟨g1, g2⟩ := and_e hg
  obtain ⟨g3, g4⟩ := and_e g2
  obtain ⟨g5, g6⟩ := and_e g4
  obtain ⟨g7, g8⟩ := and_e g6
  obtain ⟨g9, g10⟩ := and_e g8
  obtain ⟨g11, g12⟩ := and_e g10
  obtain ⟨w0, w1, w2, w3, w4, w5, rfl⟩ : ∃ w0 w1 w2 w3 w4 w5 : Value, args = #[w0, w1, w2, w3, w4, w5] := by
    have hs : args.size = 6 := by simpa [Cond.value, given_1] using g1
    obtain ⟨L⟩ := args
    match L, hs with
    | [w0, w1, w2, w3, w4, w5], _ => exact ⟨w0, w1, w2, w3, w4, w5, rfl⟩
  have hw := fun d (hd : d ∈ tables_1) => atoms_spec (ws := Jvm.Cond.code x code maxLocals ret :: tables_1) hat d (List.mem_cons_of_mem _ hd)
  obtain ⟨i0, ei0⟩ := isL_v g3
  obtain rfl : w0 = (.long i0) := Option.some.inj ei0
  obtain ⟨i1, ei1⟩ := isL_v g5
  obtain rfl : w1 = (.long i1) := Option.some.inj ei1
  obtain ⟨i2, ei2⟩ := isL_v g7
  obtain rfl : w2 = (.long i2) := Option.some.inj ei2
  obtain ⟨i3, ei3⟩ := isL_v g9
  obtain rfl : w3 = (.long i3) := Option.some.inj ei3
  obtain ⟨i4, ei4⟩ := isL_v g11
  obtain rfl : w4 = (.long i4) := Option.some.inj ei4
  obtain ⟨i5, ei5⟩ := isL_v g12
  obtain rfl : w5 = (.long i5) := Option.some.inj ei5
  obtain ⟨n, o, h1, h2, h3, v, L, rfl, ⟨hv, N⟩, hq⟩ := rm0 l s _ hw tables_1 i0 i1 i2 i3 i4 i5 s.heap s.heap.size (Nat.le_refl _) p e ha hc hk s m _ below hf ((Spec.applies_iff_loose hf).mp happ).1 ⟨rfl, State.Warmed39.refl s, rfl⟩ trivial
  rw [own_law] at hv
  subst hv
  refine ⟨n, _, h1, h2, h3, hpost _ _ _ _ _ _ ⟨Cond.after_iff.mpr rfl, Cond.after_iff.mpr (eq_i res_at (Term.int_eval (1)) rfl), trivial⟩ ⟨hq.1, hq.2.1, (hq.2.2.sift fun y hy => Or.inr (N y hy)).mono (by decide) (by decide)⟩⟩
theorem main_1_1 : Claimed_1_1 := comes_1 fun _ _ _ _ _ _ h hF => ⟨h.1, hF⟩
theorem main_1_2 : Claimed_1_2 := comes_1 fun _ _ _ _ _ _ h hF => ⟨h.2.1, hF⟩
end Jvm.Pilot.@@N@@
namespace Jvm.Pilot.@@N@@
open Jvm Jvm.ClassFile Sem Op Lib Jvm.Free Jvm.Stand Jvm.Pilot.@@N@@.Jvm.D
/-! MADE BY PROGRAM (witnessworld.py) out of the Statement's table words and the real class files: 10 classes; the members and pool entries that the words name. The judged class is class 1, her method 1. -/
namespace start1
open Jvm.ClassFile
def u (s : String) : CpInfo := .utf8 (stringToUtf16 s)
/-- a pool by its gaps: so many unusable entries, then the entry; so many at the end -/
def gap : Nat → List CpInfo → List CpInfo
  | 0, r => r
  | n + 1, r => .unusable :: gap n r
def poolList (es : List (Nat × CpInfo)) (last : Nat) : List CpInfo := es.foldr (fun e r => gap e.1 (e.2 :: r)) (gap last [])
def pool (es : List (Nat × CpInfo)) (last : Nat) : Array CpInfo := ⟨poolList es last⟩
def fileOf (pool : Array CpInfo) (this : Nat) (attrs : Array Attribute := #[]) (ms : Array MethodInfo := #[]) (fl : Nat := 33) (sup : Nat := 0) (ifs : Array Nat := #[]) (fds : Array FieldInfo := #[]) : ClassFile where
  minorVersion := 0
  majorVersion := 65
  constantPool := pool
  accessFlags := fl
  thisClass := this
  superClass := sup
  interfaces := ifs
  fields := fds
  methods := ms
  attributes := attrs
def plain (name : String) (sup : Option ClassId) : Class where
  name := name
  kind := .ordinary
  loader := none
  accessFlags := 33
  super := sup
  interfaces := #[]
  cf := none
  fields := #[]
  methods := #[]
  instanceTypes := #[]
  staticTypes := #[]
  resolved := #[]
  callSites := []
  init := .initialized
  statics := none
  mirror := none

def pool0 : Array CpInfo := pool [(5, u "<init>"), (0, u "()V"), (1, .class_ 10), (1, u "java/lang/Object")] 113

def k0c0 : Code := { maxStack := 0, maxLocals := 1, code := object_method_1_code, exceptionTable := #[], attributes := #[] }
def k0m0 : Method := { name := "<init>", desc := "()V", sig := { parameters := [], returnType := none }, accessFlags := 1, code := some k0c0 }
/-- java/lang/Object -/
def k0 : Class := { plain "java/lang/Object" none with
  accessFlags := 33
  interfaces := #[]
  cf := some (fileOf pool0 8 #[] #[{ accessFlags := 1, nameIndex := 5, descriptorIndex := 6, attributes := #[] }] 33 0 #[] #[])
  fields := #[]
  methods := #[k0m0]
  instanceTypes := #[]
  staticTypes := #[]
  resolved := Array.replicate 124 none
  statics := none }

def pool1 : Array CpInfo := pool [(2, .class_ 4), (1, u "java/lang/Object"), (0, u "<init>"), (0, u "()V"), (0, .class_ 8), (0, u "com/example/pulseline/pulseline/PacketFates"), (0, .methodref 7 10), (0, .nameAndType 5 11), (0, u "(JJJJJJ)V"), (0, .methodref 7 13), (0, .nameAndType 14 15), (0, u "sent"), (0, u "()J"), (0, .methodref 7 17), (0, .nameAndType 18 15), (0, u "forwardReceived"), (0, .class_ 20), (0, u "com/example/pulseline/pulseline/PacketFatesSentPinLaw"), (2, u "law"), (0, u "(JJJJJJ)Z")] 3

def k1m0 : Method := { name := "<init>", desc := "()V", sig := { parameters := [], returnType := none }, accessFlags := 1, code := none }
def k1c1 : Code := { maxStack := 14, maxLocals := 21, code := code, exceptionTable := #[], attributes := #[] }
def k1m1 : Method := { name := "law", desc := "(JJJJJJ)Z", sig := { parameters := [.long, .long, .long, .long, .long, .long], returnType := some .boolean }, accessFlags := 9, code := some k1c1 }
/-- com/example/pulseline/pulseline/PacketFatesSentPinLaw -/
def k1 : Class := { plain "com/example/pulseline/pulseline/PacketFatesSentPinLaw" (some 0) with
  accessFlags := 49
  interfaces := #[]
  cf := some (fileOf pool1 19 #[] #[{ accessFlags := 1, nameIndex := 5, descriptorIndex := 6, attributes := #[] }, { accessFlags := 9, nameIndex := 23, descriptorIndex := 24, attributes := #[] }] 49 2 #[] #[])
  fields := #[]
  methods := #[k1m0, k1m1]
  instanceTypes := #[]
  staticTypes := #[]
  resolved := Array.replicate 28 none
  statics := none }

def pool2 : Array CpInfo := pool [(1, .methodref 2 3), (0, .class_ 4), (0, .nameAndType 5 6), (0, u "java/lang/Object"), (0, u "<init>"), (0, u "()V"), (0, .class_ 8), (0, u "java/lang/Record")] 13

def k2c0 : Code := { maxStack := 1, maxLocals := 1, code := jdk_30_method_1_code, exceptionTable := #[], attributes := #[] }
def k2m0 : Method := { name := "<init>", desc := "()V", sig := { parameters := [], returnType := none }, accessFlags := 4, code := some k2c0 }
/-- java/lang/Record -/
def k2 : Class := { plain "java/lang/Record" (some 0) with
  accessFlags := 1057
  interfaces := #[]
  cf := some (fileOf pool2 7 #[] #[{ accessFlags := 4, nameIndex := 5, descriptorIndex := 6, attributes := #[] }] 1057 2 #[] #[])
  fields := #[]
  methods := #[k2m0]
  instanceTypes := #[]
  staticTypes := #[]
  resolved := Array.replicate 22 none
  statics := none }

def pool3 : Array CpInfo := pool [(1, .methodref 2 3), (0, .class_ 4), (0, .nameAndType 5 6), (0, u "java/lang/Record"), (0, u "<init>"), (0, u "()V"), (0, .fieldref 8 9), (0, .class_ 10), (0, .nameAndType 11 12), (0, u "com/example/pulseline/pulseline/PacketFates"), (0, u "received"), (0, u "J"), (0, .fieldref 8 14), (0, .nameAndType 15 12), (0, u "forwardLost"), (0, .fieldref 8 17), (0, .nameAndType 18 12), (0, u "backwardLost"), (0, .fieldref 8 20), (0, .nameAndType 21 12), (0, u "directionUnknown"), (0, .fieldref 8 23), (0, .nameAndType 24 12), (0, u "forwardDuplicates"), (0, .fieldref 8 26), (0, .nameAndType 27 12), (0, u "backwardDuplicates"), (33, u "sent"), (0, u "()J"), (6, u "forwardReceived"), (8, u "HUNDRED"), (0, u "Ljava/math/BigDecimal;"), (28, u "PERCENT_DECIMALS"), (0, u "I"), (2, u "(JJJJJJ)V")] 41

def k3c0 : Code := { maxStack := 3, maxLocals := 13, code := prog_15_method_1_code, exceptionTable := #[], attributes := #[] }
def k3m0 : Method := { name := "<init>", desc := "(JJJJJJ)V", sig := { parameters := [.long, .long, .long, .long, .long, .long], returnType := none }, accessFlags := 0, code := some k3c0 }
def k3c1 : Code := { maxStack := 4, maxLocals := 1, code := prog_15_method_3_code, exceptionTable := #[], attributes := #[] }
def k3m1 : Method := { name := "sent", desc := "()J", sig := { parameters := [], returnType := some .long }, accessFlags := 0, code := some k3c1 }
def k3c2 : Code := { maxStack := 4, maxLocals := 1, code := prog_15_method_4_code, exceptionTable := #[], attributes := #[] }
def k3m2 : Method := { name := "forwardReceived", desc := "()J", sig := { parameters := [], returnType := some .long }, accessFlags := 0, code := some k3c2 }
/-- com/example/pulseline/pulseline/PacketFates -/
def k3 : Class := { plain "com/example/pulseline/pulseline/PacketFates" (some 2) with
  accessFlags := 48
  interfaces := #[]
  cf := some (fileOf pool3 8 #[] #[{ accessFlags := 0, nameIndex := 5, descriptorIndex := 112, attributes := #[] }, { accessFlags := 0, nameIndex := 61, descriptorIndex := 62, attributes := #[] }, { accessFlags := 0, nameIndex := 69, descriptorIndex := 62, attributes := #[] }] 48 2 #[] #[{ accessFlags := 18, nameIndex := 11, descriptorIndex := 12, attributes := #[] }, { accessFlags := 18, nameIndex := 15, descriptorIndex := 12, attributes := #[] }, { accessFlags := 18, nameIndex := 18, descriptorIndex := 12, attributes := #[] }, { accessFlags := 18, nameIndex := 21, descriptorIndex := 12, attributes := #[] }, { accessFlags := 18, nameIndex := 24, descriptorIndex := 12, attributes := #[] }, { accessFlags := 18, nameIndex := 27, descriptorIndex := 12, attributes := #[] }, { accessFlags := 26, nameIndex := 108, descriptorIndex := 109, attributes := #[] }, { accessFlags := 26, nameIndex := 78, descriptorIndex := 79, attributes := #[] }])
  fields := #[{ name := "received", type := .long, accessFlags := 18, slot := 0, constantValue := 0 }, { name := "forwardLost", type := .long, accessFlags := 18, slot := 1, constantValue := 0 }, { name := "backwardLost", type := .long, accessFlags := 18, slot := 2, constantValue := 0 }, { name := "directionUnknown", type := .long, accessFlags := 18, slot := 3, constantValue := 0 }, { name := "forwardDuplicates", type := .long, accessFlags := 18, slot := 4, constantValue := 0 }, { name := "backwardDuplicates", type := .long, accessFlags := 18, slot := 5, constantValue := 0 }, { name := "PERCENT_DECIMALS", type := .int, accessFlags := 26, slot := 0, constantValue := 0 }, { name := "HUNDRED", type := (.object "java/math/BigDecimal"), accessFlags := 26, slot := 1, constantValue := 0 }]
  methods := #[k3m0, k3m1, k3m2]
  instanceTypes := #[.long, .long, .long, .long, .long, .long]
  staticTypes := #[.int, (.object "java/math/BigDecimal")]
  resolved := Array.replicate 154 none
  statics := none }

def pool4 : Array CpInfo := pool [(1, u "java/lang/Cloneable"), (0, .class_ 1), (0, u "java/lang/Object"), (0, .class_ 3)] 3

/-- java/lang/Cloneable -/
def k4 : Class := { plain "java/lang/Cloneable" (some 0) with
  accessFlags := 1537
  interfaces := #[]
  cf := some (fileOf pool4 2 #[] #[] 1537 4 #[] #[])
  fields := #[]
  methods := #[]
  instanceTypes := #[]
  staticTypes := #[]
  resolved := Array.replicate 8 none
  statics := none }

def pool5 : Array CpInfo := pool [(1, u "java/io/Serializable"), (0, .class_ 1), (0, u "java/lang/Object"), (0, .class_ 3)] 3

/-- java/io/Serializable -/
def k5 : Class := { plain "java/io/Serializable" (some 0) with
  accessFlags := 1537
  interfaces := #[]
  cf := some (fileOf pool5 2 #[] #[] 1537 4 #[] #[])
  fields := #[]
  methods := #[]
  instanceTypes := #[]
  staticTypes := #[]
  resolved := Array.replicate 8 none
  statics := none }

/-- the primitive byte -/
def k6 : Class := { plain "byte" none with kind := .primitive 'B', accessFlags := 0x411 }
/-- [B -/
def k7 : Class := { plain "[B" (some 0) with kind := .array 6 .byte, interfaces := #[4, 5], accessFlags := 1041 }

/-- the primitive int -/
def k8 : Class := { plain "int" none with kind := .primitive 'I', accessFlags := 0x411 }
/-- [I -/
def k9 : Class := { plain "[I" (some 0) with kind := .array 8 .int, interfaces := #[4, 5], accessFlags := 1041 }

def heap : Heap := #[]
def classes : Array Class := #[k0, k1, k2, k3, k4, k5, k6, k7, k8, k9]
def interned : List (Array UInt16 × Addr) := []
def slotsUsed : Nat := 0
def theMethod : MethodId := ⟨1, 1⟩
def args0 : Array Value := #[.long 5, .long 7, .long 6, .long 8, .long 1, .long 2]
def aboutOver (below : List Frame) : State where
  vm := { classes := classes, interned := interned.toArray }
  heap := heap
  slotsUsed := slotsUsed
  threads := #[{ frames := .invoking theMethod args0 :: below }]
def below0 : List Frame := [.native { method := ⟨0, 0⟩, args := #[] }]
def about1 : State := aboutOver below0
def p0 : Program := .bare "" "" ""
def e0 : Env := launch0.env 0 0 0
theorem w_frames : about1.frames = Frame.invoking theMethod args0 :: below0 := rfl
set_option maxRecDepth 65536 in
theorem w_args : argsFit about1.vm theMethod args0 = true := by decide +kernel
set_option maxRecDepth 65536 in
theorem w_heap : heapFits about1 = true := by decide +kernel
set_option maxRecDepth 65536 in
theorem w_runnable : about1.curStatus? = some .runnable := by decide +kernel
set_option maxRecDepth 65536 in
theorem w_alone : about1.alone = true := by decide +kernel
set_option maxRecDepth 65536 in
theorem w_named : about1.methodNamed? x = some theMethod := by decide +kernel
set_option maxRecDepth 65536 in
theorem w_hears : about1.hears theMethod below0 = true := by decide +kernel
set_option maxRecDepth 65536 in
theorem w_ripe : about1.ripe theMethod args0 below0 = true := by decide +kernel
theorem w_running : about1.status = .running := rfl
set_option maxRecDepth 65536 in
theorem w_room : about1.hasRoom e0.platform room_1 = true :=
  launch0.hasRoom_least _ room_1 (by decide +kernel) (by decide +kernel) (by decide +kernel) (by decide +kernel) (by decide +kernel) (by decide +kernel)
theorem allAtoms_all (ts : List Jvm.Cond) (a : Array Jvm.Value) (st : Jvm.State) : (allAtoms ts).before a st = ts.all (fun c => c.before a st) := by
  induction ts with
  | nil => rfl
  | cons c t ih =>
    show (Jvm.Cond.and c (allAtoms t)).before a st = _
    rw [Jvm.Cond.before_and, ih, List.all_cons]
def words1 : List Jvm.Cond := Jvm.Cond.code x code maxLocals ret :: tables_1
/-- a 'code' word, met by the world's own term for the bytes: nothing is compared byte by byte -/
theorem code_word {y : MethodName} {bytes : ByteArray} {mx : Nat} {rt : Option FieldType} {a : Array Value} {s : State} {m : MethodId} {meth : Method} {c : Code} (h1 : s.methodNamed? y = some m) (h2 : s.vm.method? m = some meth) (h3 : meth.code = some c) (h4 : c.code = bytes)
    (h5 : (c.maxLocals == mx && c.exceptionTable.isEmpty && decide (c.maxStack ≤ mostOperands) && decide (meth.sig.returnType = rt) && !meth.locks && decide (parseMethodDescriptor y.desc = some meth.sig)) = true) : (Jvm.Cond.code y bytes mx rt).before a s = true := by
  simp only [Bool.and_eq_true, beq_iff_eq, Bool.not_eq_true', decide_eq_true_eq] at h5
  obtain ⟨⟨⟨⟨⟨g1, g2⟩, g3⟩, g4⟩, g5⟩, g6⟩ := h5
  simp [Cond.before, Cond.holds, Cond.value, h1, h2, h3, h4, g1, g2, g3, g4, g5, g6]
def isCode : Jvm.Cond → Bool
  | .code _ _ _ _ => true
  | _ => false
theorem all_split {L : List Jvm.Cond} {P : Jvm.Cond → Bool} (h1 : L.all (fun c => isCode c || P c) = true) (h2 : ∀ c ∈ L.filter isCode, P c = true) : L.all P = true := by
  refine List.all_eq_true.mpr fun c hc => ?_
  have h := List.all_eq_true.mp h1 c hc
  rcases Bool.eq_false_or_eq_true (isCode c) with hi | hi
  · exact h2 c (List.mem_filter.mpr ⟨hc, hi⟩)
  · simpa [hi] using h
set_option maxRecDepth 65536 in
theorem w_c0 : (Jvm.Cond.code x code maxLocals ret).before args0 about1 = true := code_word (m := ⟨1, 1⟩) (meth := k1m1) (c := k1c1) (by decide +kernel) rfl rfl rfl (by decide +kernel)
set_option maxRecDepth 65536 in
theorem w_c1 : (Jvm.Cond.code ({ cls := "com/example/pulseline/pulseline/PacketFates", name := "<init>", desc := "(JJJJJJ)V" } : Jvm.MethodName) prog_15_method_1_code (13 : Nat) (Option.none : Option Jvm.ClassFile.FieldType)).before args0 about1 = true := code_word (m := ⟨3, 0⟩) (meth := k3m0) (c := k3c0) (by decide +kernel) rfl rfl rfl (by decide +kernel)
set_option maxRecDepth 65536 in
theorem w_c2 : (Jvm.Cond.code ({ cls := "java/lang/Record", name := "<init>", desc := "()V" } : Jvm.MethodName) jdk_30_method_1_code (1 : Nat) (Option.none : Option Jvm.ClassFile.FieldType)).before args0 about1 = true := code_word (m := ⟨2, 0⟩) (meth := k2m0) (c := k2c0) (by decide +kernel) rfl rfl rfl (by decide +kernel)
set_option maxRecDepth 65536 in
theorem w_c3 : (Jvm.Cond.code ({ cls := "java/lang/Object", name := "<init>", desc := "()V" } : Jvm.MethodName) object_method_1_code (1 : Nat) (Option.none : Option Jvm.ClassFile.FieldType)).before args0 about1 = true := code_word (m := ⟨0, 0⟩) (meth := k0m0) (c := k0c0) (by decide +kernel) rfl rfl rfl (by decide +kernel)
set_option maxRecDepth 65536 in
theorem w_c4 : (Jvm.Cond.code ({ cls := "com/example/pulseline/pulseline/PacketFates", name := "sent", desc := "()J" } : Jvm.MethodName) prog_15_method_3_code (1 : Nat) (Option.some Jvm.ClassFile.FieldType.long)).before args0 about1 = true := code_word (m := ⟨3, 1⟩) (meth := k3m1) (c := k3c1) (by decide +kernel) rfl rfl rfl (by decide +kernel)
set_option maxRecDepth 65536 in
theorem w_c5 : (Jvm.Cond.code ({ cls := "com/example/pulseline/pulseline/PacketFates", name := "forwardReceived", desc := "()J" } : Jvm.MethodName) prog_15_method_4_code (1 : Nat) (Option.some Jvm.ClassFile.FieldType.long)).before args0 about1 = true := code_word (m := ⟨3, 2⟩) (meth := k3m2) (c := k3c2) (by decide +kernel) rfl rfl rfl (by decide +kernel)
def codes1 : List Jvm.Cond := [Jvm.Cond.code x code maxLocals ret, Jvm.Cond.code ({ cls := "com/example/pulseline/pulseline/PacketFates", name := "<init>", desc := "(JJJJJJ)V" } : Jvm.MethodName) prog_15_method_1_code (13 : Nat) (Option.none : Option Jvm.ClassFile.FieldType), Jvm.Cond.code ({ cls := "java/lang/Record", name := "<init>", desc := "()V" } : Jvm.MethodName) jdk_30_method_1_code (1 : Nat) (Option.none : Option Jvm.ClassFile.FieldType), Jvm.Cond.code ({ cls := "java/lang/Object", name := "<init>", desc := "()V" } : Jvm.MethodName) object_method_1_code (1 : Nat) (Option.none : Option Jvm.ClassFile.FieldType), Jvm.Cond.code ({ cls := "com/example/pulseline/pulseline/PacketFates", name := "sent", desc := "()J" } : Jvm.MethodName) prog_15_method_3_code (1 : Nat) (Option.some Jvm.ClassFile.FieldType.long), Jvm.Cond.code ({ cls := "com/example/pulseline/pulseline/PacketFates", name := "forwardReceived", desc := "()J" } : Jvm.MethodName) prog_15_method_4_code (1 : Nat) (Option.some Jvm.ClassFile.FieldType.long)]
set_option maxRecDepth 65536 in
theorem codes_eq : words1.filter isCode = codes1 := rfl
theorem w_codes : ∀ c ∈ words1.filter isCode, c.before args0 about1 = true := by
  rw [codes_eq]
  intro c hc
  simp only [codes1, List.mem_cons, List.not_mem_nil, or_false] at hc
  rcases hc with rfl | rfl | rfl | rfl | rfl | rfl
  · exact w_c0
  · exact w_c1
  · exact w_c2
  · exact w_c3
  · exact w_c4
  · exact w_c5
set_option maxRecDepth 65536 in
theorem w_t1 : (words1.take 24).all (fun c => isCode c || c.before args0 about1) = true := by decide +kernel
set_option maxRecDepth 65536 in
theorem w_t2 : (words1.drop 24).all (fun c => isCode c || c.before args0 about1) = true := by decide +kernel
theorem w_tables : (allAtoms (Jvm.Cond.code x code maxLocals ret :: tables_1)).before args0 about1 = true := by
  rw [allAtoms_all]
  show words1.all (fun c => c.before args0 about1) = true
  refine all_split ?_ w_codes
  rw [← List.take_append_drop 24 words1, List.all_append, w_t1, w_t2]
  rfl
set_option maxRecDepth 65536 in
theorem w_case : (Jvm.Cond.and given_1 narrow_1).before args0 about1 = true := by decide +kernel
theorem w_applies : (headSpec (Jvm.Cond.code x code maxLocals ret :: tables_1) room_1).applies x e0.platform about1 = true :=
  (Spec.applies_iff w_frames).mpr ⟨w_running, w_runnable, w_alone, w_named, w_hears, w_ripe, w_room, w_tables⟩
theorem atStart : AtStart classFile x code maxLocals ret World_1 tables_1 room_1 Calls_1 rest_1 Pre_1 launch0 p0 e0 about1 theMethod args0 below0 :=
  ⟨lists_1, trivial, launch0.admits_env _ _ _, launch0.least_env, fairChoices_fair.cas, fairChoices_fair.clock, w_frames, w_args, w_heap, w_applies, trivial, trivial, w_case⟩
end start1
theorem witness_1 : WitnessClaimed_1 := ⟨start1.p0, start1.e0, start1.about1, start1.theMethod, start1.args0, start1.below0, start1.atStart⟩
end Jvm.Pilot.@@N@@
