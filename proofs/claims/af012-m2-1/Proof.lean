import JvmDerived
import JvmDerived.Pilot.@@N@@Statement
import JvmDerived.Pilot.@@N@@Code
set_option linter.unusedVariables false
set_option linter.unusedSimpArgs false
@@BLOCK:NumsL.lean.txt@@
namespace Jvm.RoadKit
open Sem ClassFile Op Lib Jvm.Stand Jvm.Free Jvm.LawKit
section New
variable {p : Program} {l : Launch} {e : Env} {R : Room} {s : State} {m : MethodId} {args : Array Value} {below : List Frame} {meth : Method} {c : Code} {T : State} {locs : List Loc} {cells slots : Nat}
theorem retI (X : Stand p l e R s m args below meth c T locs cells slots) (hx : p.tables.exec = Jvm.exec) {pc : Nat} {Ls : Array Slot} {z : Int32} {rest : List Value} (hret : meth.sig.returnType = some .int) (hd : decode c.code pc = .ok (.ireturn, 1)) {fs : List Frame}
    (hl : ∀ (f : JFrame) (acts : List Action), f.method = m → f.locked = none → f.entered = [] → (doReturn e (T.setTop f) acts (some (.int z))).1 = T.setFrames fs) : Steps p.tables e below (T.setTop (mkF m pc Ls (.int z :: rest))) (T.setFrames fs) := by
  have hm' : T.vm.method? m = some meth := X.method'
  have hn : narrow .int (.int z) = .int z := rfl
  show Steps p.tables e below (T.setTop { method := m, pc := pc, locals := Ls, stack := _ :: rest, locked := none }) _
  jvm_step X.here [X.here.top, hx, hd, hm', hret, hn]
  first | (intro acts; rw [hl _ acts rfl rfl rfl]) | rw [hl _ _ rfl rfl rfl]
  exact Steps.refl _
end New
end Jvm.RoadKit
namespace Jvm.Pilot.@@N@@
open Jvm Jvm.ClassFile Sem Op Lib Jvm.Free Jvm.Stand Jvm.LawKit Jvm.RoadKit Bundle Jvm.Pilot.@@N@@.Jvm.D
theorem own_nt {b : Bool} (h : b = false) : ¬ b = true := fun q => by rw [h] at q; cases q
theorem own_ts_ne {α : Type} {o : Option α} {a b : α} (h : o = some b) (ne : b ≠ a) : ¬ o = some a := fun q => ne (Option.some.inj (h.symm.trans q))
/-- what lcmp pushes; Java's shifts and the remainder of longs -/
def own_cmp (x y : Int64) : Int32 := lcmpW x y
def own_iushr (x y : Int32) : Int32 := (x.toUInt32 >>> (y &&& 31).toUInt32).toInt32
def own_lushr (x : Int64) (y : Int32) : Int64 := (x.toUInt64 >>> (y &&& 0x3f).toInt64.toUInt64).toInt64
def own_lshl (x : Int64) (y : Int32) : Int64 := x <<< (y &&& 0x3f).toInt64
def own_lshr (x : Int64) (y : Int32) : Int64 := x >>> (y &&& 0x3f).toInt64
def own_lrem (x y : Int64) : Int64 := x - (x / y) * y
theorem own_ieq (x y : Int32) : (if_icmp.holds .eq x y = true) = (x.toInt = y.toInt) := by
  rw [show if_icmp.holds .eq x y = (x == y) from rfl, beq_iff_eq, Int32.toInt_inj]
theorem own_ine (x y : Int32) : (if_icmp.holds .ne x y = true) = (x.toInt ≠ y.toInt) := by
  rw [show if_icmp.holds .ne x y = (x != y) from rfl, bne_iff_ne, ne_eq, ne_eq, Int32.toInt_inj]
theorem own_ilt (x y : Int32) : (if_icmp.holds .lt x y = true) = (x.toInt < y.toInt) := by
  rw [show if_icmp.holds .lt x y = decide (x < y) from rfl, decide_eq_true_eq, Int32.lt_iff_toInt_lt]
theorem own_ige (x y : Int32) : (if_icmp.holds .ge x y = true) = (y.toInt ≤ x.toInt) := by
  rw [show if_icmp.holds .ge x y = decide (y ≤ x) from rfl, decide_eq_true_eq, Int32.le_iff_toInt_le]
theorem own_igt (x y : Int32) : (if_icmp.holds .gt x y = true) = (y.toInt < x.toInt) := by
  rw [show if_icmp.holds .gt x y = decide (y < x) from rfl, decide_eq_true_eq, Int32.lt_iff_toInt_lt]
theorem own_ile (x y : Int32) : (if_icmp.holds .le x y = true) = (x.toInt ≤ y.toInt) := by
  rw [show if_icmp.holds .le x y = decide (x ≤ y) from rfl, decide_eq_true_eq, Int32.le_iff_toInt_le]
theorem own_z32 : (0 : Int32).toInt = 0 := rfl
theorem own_eq0 (x : Int32) : (ifCond.holds .eq x = true) = (x.toInt = 0) := by rw [if0, own_ieq, own_z32]
theorem own_ne0 (x : Int32) : (ifCond.holds .ne x = true) = (x.toInt ≠ 0) := by rw [if0, own_ine, own_z32]
theorem own_lt0 (x : Int32) : (ifCond.holds .lt x = true) = (x.toInt < 0) := by rw [if0, own_ilt, own_z32]
theorem own_ge0 (x : Int32) : (ifCond.holds .ge x = true) = (0 ≤ x.toInt) := by rw [if0, own_ige, own_z32]
theorem own_gt0 (x : Int32) : (ifCond.holds .gt x = true) = (0 < x.toInt) := by rw [if0, own_igt, own_z32]
theorem own_le0 (x : Int32) : (ifCond.holds .le x = true) = (x.toInt ≤ 0) := by rw [if0, own_ile, own_z32]
theorem own_cmp3 (x y : Int64) : (x.toInt < y.toInt ∧ (own_cmp x y).toInt = -1) ∨ (x.toInt = y.toInt ∧ (own_cmp x y).toInt = 0) ∨ (y.toInt < x.toInt ∧ (own_cmp x y).toInt = 1) := by
  obtain ⟨h1, h2, h3⟩ := c_lcmp x y
  have e : own_cmp x y = lcmpW x y := rfl
  rw [e]
  rcases Int.lt_trichotomy x.toInt y.toInt with h | h | h
  · exact Or.inl ⟨h, h1 h⟩
  · exact Or.inr (Or.inl ⟨h, h2 h⟩)
  · exact Or.inr (Or.inr ⟨h, h3 h⟩)
theorem own_ceq (x y : Int64) : (ifCond.holds .eq (own_cmp x y) = true) = (x.toInt = y.toInt) := by
  rw [own_eq0]; have := own_cmp3 x y; exact propext ⟨fun h => by omega, fun h => by omega⟩
theorem own_cne (x y : Int64) : (ifCond.holds .ne (own_cmp x y) = true) = (x.toInt ≠ y.toInt) := by
  rw [own_ne0]; have := own_cmp3 x y; exact propext ⟨fun h => by omega, fun h => by omega⟩
theorem own_clt (x y : Int64) : (ifCond.holds .lt (own_cmp x y) = true) = (x.toInt < y.toInt) := by
  rw [own_lt0]; have := own_cmp3 x y; exact propext ⟨fun h => by omega, fun h => by omega⟩
theorem own_cge (x y : Int64) : (ifCond.holds .ge (own_cmp x y) = true) = (y.toInt ≤ x.toInt) := by
  rw [own_ge0]; have := own_cmp3 x y; exact propext ⟨fun h => by omega, fun h => by omega⟩
theorem own_cgt (x y : Int64) : (ifCond.holds .gt (own_cmp x y) = true) = (y.toInt < x.toInt) := by
  rw [own_gt0]; have := own_cmp3 x y; exact propext ⟨fun h => by omega, fun h => by omega⟩
theorem own_cle (x y : Int64) : (ifCond.holds .le (own_cmp x y) = true) = (x.toInt ≤ y.toInt) := by
  rw [own_le0]; have := own_cmp3 x y; exact propext ⟨fun h => by omega, fun h => by omega⟩
theorem own_nar1 {x : Int32} (h : x = 1) : nar .boolean x = 1 := by rw [h]; rfl
theorem own_nar0 {x : Int32} (h : x = 0) : nar .boolean x = 0 := by rw [h]; rfl
/-- the last row of a law: a comparison that isn't met gives 0, else 1 -/
theorem own_last {c : Prop} [Decidable c] (h : ¬ c) : nar .boolean (if c then (0 : Int32) else 1) = 1 := by rw [if_neg h]; rfl
theorem own_n32 (x : Int32) : (x.toBitVec.toNat : Int) = x.toInt % 4294967296 := by
  have h := x.toBitVec.isLt
  show _ = x.toBitVec.toInt % _
  rw [BitVec.toInt_eq_toNat_cond]
  split <;> omega
theorem own_n64 (x : Int64) : (x.toBitVec.toNat : Int) = x.toInt % 18446744073709551616 := by
  have h := x.toBitVec.isLt
  show _ = x.toBitVec.toInt % _
  rw [BitVec.toInt_eq_toNat_cond]
  split <;> omega
theorem own_iushr_nat (x y : Int32) : (own_iushr x y).toBitVec.toNat = x.toBitVec.toNat / 2 ^ (y.toBitVec.toNat % 32) := by
  have h1 : (y &&& 31).toBitVec.toNat = y.toBitVec.toNat % 32 := by
    show (y.toBitVec &&& (31 : Int32).toBitVec).toNat = _
    rw [BitVec.toNat_and, show (31 : Int32).toBitVec.toNat = 2 ^ 5 - 1 from by decide, Nat.and_two_pow_sub_one_eq_mod]
  show (x.toBitVec >>> ((y &&& 31).toBitVec % 32)).toNat = _
  rw [BitVec.ushiftRight_eq', BitVec.toNat_ushiftRight, Nat.shiftRight_eq_div_pow, BitVec.toNat_umod, h1, show (32 : BitVec 32).toNat = 32 from rfl, Nat.mod_mod]
theorem own_lushr_nat (x : Int64) (y : Int32) : (own_lushr x y).toBitVec.toNat = x.toBitVec.toNat / 2 ^ (y.toBitVec.toNat % 64) := by
  obtain ⟨h1, h2⟩ := sm64 y _ rfl
  show (x.toBitVec >>> ((y &&& 0x3f).toInt64.toBitVec % 64)).toNat = _
  rw [BitVec.ushiftRight_eq', BitVec.toNat_ushiftRight, Nat.shiftRight_eq_div_pow, BitVec.toNat_umod, h1, BitVec.toNat_ofNat]
  congr 2
  show y.toBitVec.toNat % 64 % 2 ^ 64 % 64 = _
  omega
theorem own_iushr_nn (x y : Int32) (h : 0 ≤ x.toInt) : 0 ≤ (own_iushr x y).toInt ∧ (own_iushr x y).toInt ≤ x.toInt := by
  have a := own_iushr_nat x y
  have b := Nat.div_le_self x.toBitVec.toNat (2 ^ (y.toBitVec.toNat % 32))
  have c := own_n32 x
  have d := own_n32 (own_iushr x y)
  have r := rng32 x
  have r2 := rng32 (own_iushr x y)
  omega
theorem own_lushr_nn (x : Int64) (y : Int32) (h : 0 ≤ x.toInt) : 0 ≤ (own_lushr x y).toInt ∧ (own_lushr x y).toInt ≤ x.toInt := by
  have a := own_lushr_nat x y
  have b := Nat.div_le_self x.toBitVec.toNat (2 ^ (y.toBitVec.toNat % 64))
  have c := own_n64 x
  have d := own_n64 (own_lushr x y)
  have r := rng64 x
  have r2 := rng64 (own_lushr x y)
  omega
theorem own_ff {b : Bool} (h : ¬ b = true) : b = false := by cases b <;> first | rfl | exact absurd rfl h
theorem own_clt_f {x y : Int64} (h : ¬ x.toInt < y.toInt) : ifCond.holds .lt (own_cmp x y) = false := own_ff fun q => h ((own_clt x y).mp q)
theorem own_nz {x : Int64} (h : (0 : Int64).toInt < x.toInt) : x ≠ 0 := fun q => by rw [q] at h; exact absurd h (Int.lt_irrefl _)
theorem own_max (x : Int64) : x.toInt ≤ (9223372036854775807 : Int64).toInt := by
  have r := rng64 x
  have e : (9223372036854775807 : Int64).toInt = 9223372036854775807 := rfl
  omega

-- body 2: java/lang/Record.<init>:()V
theorem d2_0 : decode jdk_30_method_1_code 0 = .ok (.aload_n 0, 1) := by decide +kernel
theorem d2_1 : decode jdk_30_method_1_code 1 = .ok (.invokespecial 1, 3) := by decide +kernel
theorem d2_4 : decode jdk_30_method_1_code 4 = .ok (.return_, 1) := by decide +kernel
theorem pn_0 : plainName "java/lang/Record" = true := by first | (simp [plainName, overriddenIn]; done) | decide +kernel
theorem ef_2 (m : MethodId) (x0 : Addr) : entryFrame m #[(.ref x0)] 1 = mkF m 0 #[.val (.ref x0)] [] := by first | (simp [entryFrame, mkF, argsToLocals, Value.category]; done) | rfl
def Q2 (Z : State) (x0 : Addr) (h0 : Heap) (n0 : Nat) (v : Option Value) (h : Heap) (L : List Loc) : Prop := v = none ∧ Fr n0 L ∧ h = h0
set_option maxRecDepth 65536 in
set_option maxHeartbeats 40000000 in
theorem rm2 (l : Launch) (Z : State) (a0 : Array Value) (hw : ∀ d ∈ tables_1, d.before a0 Z = true) (ws : List Jvm.Cond) (x0 : Addr) (h0 : Heap) (n0 : Nat) (Z0 : n0 ≤ h0.size) :
    MetFree l (⟨"java/lang/Record", "<init>", "()V"⟩ : MethodName) (head1 (Jvm.Cond.code (⟨"java/lang/Record", "<init>", "()V"⟩ : MethodName) jdk_30_method_1_code 1 (none) :: ws) ({ frames := 1, cells := 0, slots := 0, locals := 12 } : Room)) (fun a U => a = #[(.ref x0)] ∧ Z.Warmed39 U.vm ∧ U.heap = h0) (fun _ _ _ _ _ => True) (fun _ U o U' => ∃ v L, o = .returned v ∧ Q2 Z x0 h0 n0 v U'.heap L ∧ FrameEnd U o U' L ({ frames := 1, cells := 0, slots := 0, locals := 12 } : Room).cells ({ frames := 1, cells := 0, slots := 0, locals := 12 } : Room).slots) := by
  refine MetFree.of_bodySF (plainFor_of_name pn_0) hisR ?_
  intro p e s m args below meth c s₁ Bd hml0 hP hK0
  obtain ⟨rfl, hZ, hh⟩ := hP
  have hx := Bd.exec
  have hby := Bd.bytes
  have hml : c.maxLocals = 1 := hml0
  have hown : s.vm.findClass "java/lang/Record" = some m.cls := findClass_of_methodNamed Bd.named
  have hnm := (name_of_methodNamed Bd.named Bd.method).1
  have hret : meth.sig.returnType = none := Bd.returns
  have hlk : meth.locks = false := Bd.notSynchronized
  have X0 : Stand p l e ({ frames := 1, cells := 0, slots := 0, locals := 12 } : Room) s m #[(.ref x0)] below meth c s₁ [] 0 0 := Stand.of_body Bd
  have e0 : s₁.heap = h0 := by rw [← hh, Bd.state]; rfl
  have N0 := Fr.nil n0
  have pre0 : ∀ t, Steps p.tables e below (s₁.setTop (mkF m 0 #[.val (.ref x0)] [])) t → Steps p.tables e below (s₁.setTop (entryFrame m #[(.ref x0)] 1)) t := fun t k => castTop (ef_2 m x0) k
  obtain ⟨T1, X1, e1, st1⟩ := initO X0 hx hZ hown (hw _ (List.mem_of_getElem? (i := 11) rfl)) (hw _ (List.mem_of_getElem? (i := 12) rfl)) (hw _ (List.mem_of_getElem? (i := 13) rfl)) e0 (g := (mkF m 1 #[.val (.ref x0)] [(.ref x0)])) rfl (by rw [hml]; rfl) rfl (hb hby d2_1) (by decide) (W := 0) (by show 2 * 0 + _ ≤ _; exact Nat.le_of_eq rfl) (by decide)
  obtain ⟨fs, hr, hrun, hended, hW, hsame⟩ := X1.leave (v := none) (fun _ => rfl)
  refine ⟨_, _, pre0 _ ?_, hrun, hended, _, _, rfl, ?_, ⟨_, rfl⟩, hW, hsame.mono (by decide) (by decide)⟩
  · show Steps p.tables e below (s₁.setTop (mkF m 0 #[.val (.ref x0)] [])) _
    refine XS.aloadN X0.here hx rfl (hb hby d2_0) rfl rfl ?_
    show Steps p.tables e below (s₁.setTop (mkF m 1 #[.val (.ref x0)] [(.ref x0)])) _
    refine st1 _ ?_
    show Steps p.tables e below (T1.setTop (mkF m 4 #[.val (.ref x0)] [])) _
    exact X1.returnOut hx hret (hb hby d2_4) hr
  · show Q2 Z x0 h0 n0 _ T1.heap _
    rw [e1]
    exact ⟨rfl, N0, rfl⟩
theorem pd_0 : parseMethodDescriptor "()V" = some ⟨[], none⟩ := by decide +kernel
-- body 1: com/example/nodes_in_quorum/nodesinquorum/quorum/Promise.<init>:(JI)V
theorem d1_0 : decode prog_88_method_1_code 0 = .ok (.aload_n 0, 1) := by decide +kernel
theorem d1_1 : decode prog_88_method_1_code 1 = .ok (.invokespecial 1, 3) := by decide +kernel
theorem d1_4 : decode prog_88_method_1_code 4 = .ok (.aload_n 0, 1) := by decide +kernel
theorem d1_5 : decode prog_88_method_1_code 5 = .ok (.lload_n 1, 1) := by decide +kernel
theorem d1_6 : decode prog_88_method_1_code 6 = .ok (.putfield 7, 3) := by decide +kernel
theorem d1_9 : decode prog_88_method_1_code 9 = .ok (.aload_n 0, 1) := by decide +kernel
theorem d1_10 : decode prog_88_method_1_code 10 = .ok (.iload_n 3, 1) := by decide +kernel
theorem d1_11 : decode prog_88_method_1_code 11 = .ok (.putfield 13, 3) := by decide +kernel
theorem d1_14 : decode prog_88_method_1_code 14 = .ok (.return_, 1) := by decide +kernel
theorem pn_1 : plainName "com/example/nodes_in_quorum/nodesinquorum/quorum/Promise" = true := by first | (simp [plainName, overriddenIn]; done) | decide +kernel
theorem ef_1 (m : MethodId) (x0 : Addr) (x1 : Int64) (x2 : Int32) : entryFrame m #[(.ref x0), (.long x1), (.int x2)] 4 = mkF m 0 #[.val (.ref x0), .val (.long x1), .second, .val (.int x2)] [] := by first | (simp [entryFrame, mkF, argsToLocals, Value.category]; done) | rfl
def Q1 (Z : State) (x0 : Addr) (x1 : Int64) (x2 : Int32) (u_epoch_x0 : Value) (u_leader_x0 : Value) (h0 : Heap) (n0 : Nat) (v : Option Value) (h : Heap) (L : List Loc) : Prop := v = none ∧ Fr n0 L ∧ Keep h0 h [x0] ∧ Exa Z h x0 "com/example/nodes_in_quorum/nodesinquorum/quorum/Promise" ∧ Fld Z h x0 "com/example/nodes_in_quorum/nodesinquorum/quorum/Promise" "epoch" "J" (.long x1) ∧ Fld Z h x0 "com/example/nodes_in_quorum/nodesinquorum/quorum/Promise" "leader" "I" (.int x2)
set_option maxRecDepth 65536 in
set_option maxHeartbeats 40000000 in
theorem rm1 (l : Launch) (Z : State) (a0 : Array Value) (hw : ∀ d ∈ tables_1, d.before a0 Z = true) (ws : List Jvm.Cond) (x0 : Addr) (x1 : Int64) (x2 : Int32) (u_epoch_x0 : Value) (u_leader_x0 : Value) (h0 : Heap) (n0 : Nat) (Z0 : n0 ≤ h0.size) (E_x0 : Exa Z h0 x0 "com/example/nodes_in_quorum/nodesinquorum/quorum/Promise") (g_x0 : n0 ≤ x0) (F_x0_epoch : Fld Z h0 x0 "com/example/nodes_in_quorum/nodesinquorum/quorum/Promise" "epoch" "J" u_epoch_x0) (F_x0_leader : Fld Z h0 x0 "com/example/nodes_in_quorum/nodesinquorum/quorum/Promise" "leader" "I" u_leader_x0) :
    MetFree l (⟨"com/example/nodes_in_quorum/nodesinquorum/quorum/Promise", "<init>", "(JI)V"⟩ : MethodName) (head1 (Jvm.Cond.code (⟨"com/example/nodes_in_quorum/nodesinquorum/quorum/Promise", "<init>", "(JI)V"⟩ : MethodName) prog_88_method_1_code 4 (none) :: ws) ({ frames := 2, cells := 0, slots := 0, locals := 24 } : Room)) (fun a U => a = #[(.ref x0), (.long x1), (.int x2)] ∧ Z.Warmed39 U.vm ∧ U.heap = h0) (fun _ _ _ _ _ => True) (fun _ U o U' => ∃ v L, o = .returned v ∧ Q1 Z x0 x1 x2 u_epoch_x0 u_leader_x0 h0 n0 v U'.heap L ∧ FrameEnd U o U' L ({ frames := 2, cells := 0, slots := 0, locals := 24 } : Room).cells ({ frames := 2, cells := 0, slots := 0, locals := 24 } : Room).slots) := by
  refine MetFree.of_bodySF (plainFor_of_name pn_1) hisR ?_
  intro p e s m args below meth c s₁ Bd hml0 hP hK0
  obtain ⟨rfl, hZ, hh⟩ := hP
  have hx := Bd.exec
  have hby := Bd.bytes
  have hml : c.maxLocals = 4 := hml0
  have hown : s.vm.findClass "com/example/nodes_in_quorum/nodesinquorum/quorum/Promise" = some m.cls := findClass_of_methodNamed Bd.named
  have hnm := (name_of_methodNamed Bd.named Bd.method).1
  have hret : meth.sig.returnType = none := Bd.returns
  have hlk : meth.locks = false := Bd.notSynchronized
  have X0 : Stand p l e ({ frames := 2, cells := 0, slots := 0, locals := 24 } : Room) s m #[(.ref x0), (.long x1), (.int x2)] below meth c s₁ [] 0 0 := Stand.of_body Bd
  have e0 : s₁.heap = h0 := by rw [← hh, Bd.state]; rfl
  have N0 := Fr.nil n0
  have pre0 : ∀ t, Steps p.tables e below (s₁.setTop (mkF m 0 #[.val (.ref x0), .val (.long x1), .second, .val (.int x2)] [])) t → Steps p.tables e below (s₁.setTop (entryFrame m #[(.ref x0), (.long x1), (.int x2)] 4)) t := fun t k => castTop (ef_1 m x0 x1 x2) k
  obtain ⟨_, _, ⟨T1, L1, k1, n1⟩, -, X1, ⟨Lc1, hQ1, l1, y1, z1⟩, st1⟩ := X0.specialBack hx (y := (⟨"java/lang/Record", "<init>", "()V"⟩ : MethodName)) rfl hown (mvT hZ (hw _ (List.mem_of_getElem? (i := 6) rfl))) (mvT hZ (hw _ (List.mem_of_getElem? (i := 7) rfl))) (mvT hZ (hw _ (List.mem_of_getElem? (i := 10) rfl))) (by decide) (backOf (W := 0) (rm2 l Z a0 hw [] x0 h0 n0 Z0) hZ (hw _ (List.mem_of_getElem? (i := 10) rfl)) (hw _ (List.mem_of_getElem? (i := 9) rfl)) (by decide) (by decide)) (g := (mkF m 1 #[.val (.ref x0), .val (.long x1), .second, .val (.int x2)] [(.ref x0)])) rfl (by rw [hml]; rfl) (Steps.refl _) (a := x0) (argsL := []) (rest := []) (lenOf pd_0 rfl) rfl (by show 2 * 0 + _ ≤ _; exact Nat.le_of_eq rfl) (hb hby d1_1) (fun _ _ => ⟨rfl, e0, (by decide : 0 + 0 ≤ _), (by decide : 0 + 0 ≤ _)⟩)
  dsimp only [Pt.U, Pt.locs, Pt.cells, Pt.slots] at X1 l1 y1 z1 st1 hQ1
  subst l1 y1 z1
  obtain ⟨rfl, Nq1, e1⟩ := hQ1
  have N1 := Fr.app N0 Nq1
  obtain ⟨T2, h2, X2, e2, W2, st2⟩ := putF X1 hx hZ hown (host := "") (Or.inl (hw _ (List.mem_of_getElem? (i := 14) rfl))) Via.refl e1 F_x0_epoch E_x0 (Or.inr ⟨(hw _ (List.mem_of_getElem? (i := 15) rfl)), rfl, hnm⟩) (hw _ (List.mem_of_getElem? (i := 1) rfl)) (ty := .long) (by decide) rfl rfl (g := (mkF m 6 #[.val (.ref x0), .val (.long x1), .second, .val (.int x2)] [(.long x1), (.ref x0)])) rfl rfl (hb hby d1_6)
  have N2 := Fr.snoc X2 N1 g_x0
  have Z2 : n0 ≤ h2.size := Nat.le_trans Z0 (Keep.of_wr W2).1
  have K2 : Keep h0 h2 [x0] := Keep.wr (Keep.refl h0 [x0]) W2 (Or.inl (List.mem_of_getElem? (i := 0) rfl))
  have P3 := E_x0.wr W2
  have P4 := F_x0_epoch.same W2
  have P5 := F_x0_leader.other W2 (Or.inr (slot_ne (Or.inr (hw _ (List.mem_of_getElem? (i := 17) rfl))) (Or.inr (hw _ (List.mem_of_getElem? (i := 15) rfl))) (by decide) (t := .int) (t' := .long) (by decide) (by decide)))
  obtain ⟨T6, h6, X6, e6, W6, st6⟩ := putF X2 hx hZ hown (host := "") (Or.inl (hw _ (List.mem_of_getElem? (i := 16) rfl))) Via.refl e2 P5 P3 (Or.inr ⟨(hw _ (List.mem_of_getElem? (i := 17) rfl)), rfl, hnm⟩) (hw _ (List.mem_of_getElem? (i := 1) rfl)) (ty := .int) (by decide) rfl rfl (g := (mkF m 11 #[.val (.ref x0), .val (.long x1), .second, .val (.int x2)] [(.int x2), (.ref x0)])) rfl rfl (hb hby d1_11)
  have N6 := Fr.snoc X6 N2 g_x0
  have Z6 : n0 ≤ h6.size := Nat.le_trans Z2 (Keep.of_wr W6).1
  have K6 : Keep h0 h6 [x0] := Keep.wr K2 W6 (Or.inl (List.mem_of_getElem? (i := 0) rfl))
  have P7 := P3.wr W6
  have P8 := P4.other W6 (Or.inr (slot_ne (Or.inr (hw _ (List.mem_of_getElem? (i := 15) rfl))) (Or.inr (hw _ (List.mem_of_getElem? (i := 17) rfl))) (by decide) (t := .long) (t' := .int) (by decide) (by decide)))
  have P9 := P5.same W6
  obtain ⟨fs, hr, hrun, hended, hW, hsame⟩ := X6.leave (v := none) (fun _ => rfl)
  refine ⟨_, _, pre0 _ ?_, hrun, hended, _, _, rfl, ?_, ⟨_, rfl⟩, hW, hsame.mono (by decide) (by decide)⟩
  · show Steps p.tables e below (s₁.setTop (mkF m 0 #[.val (.ref x0), .val (.long x1), .second, .val (.int x2)] [])) _
    refine XS.aloadN X0.here hx rfl (hb hby d1_0) rfl rfl ?_
    show Steps p.tables e below (s₁.setTop (mkF m 1 #[.val (.ref x0), .val (.long x1), .second, .val (.int x2)] [(.ref x0)])) _
    refine st1.trans ?_
    show Steps p.tables e below (T1.setTop (mkF m 4 #[.val (.ref x0), .val (.long x1), .second, .val (.int x2)] [])) _
    refine XS.aloadN X1.here hx rfl (hb hby d1_4) rfl rfl ?_
    show Steps p.tables e below (T1.setTop (mkF m 5 #[.val (.ref x0), .val (.long x1), .second, .val (.int x2)] [(.ref x0)])) _
    refine XS.lloadN X1.here hx rfl (hb hby d1_5) rfl ?_
    show Steps p.tables e below (T1.setTop (mkF m 6 #[.val (.ref x0), .val (.long x1), .second, .val (.int x2)] [(.long x1), (.ref x0)])) _
    refine st2 _ ?_
    show Steps p.tables e below (T2.setTop (mkF m 9 #[.val (.ref x0), .val (.long x1), .second, .val (.int x2)] [])) _
    refine XS.aloadN X2.here hx rfl (hb hby d1_9) rfl rfl ?_
    show Steps p.tables e below (T2.setTop (mkF m 10 #[.val (.ref x0), .val (.long x1), .second, .val (.int x2)] [(.ref x0)])) _
    refine XS.iloadN X2.here hx rfl (hb hby d1_10) rfl ?_
    show Steps p.tables e below (T2.setTop (mkF m 11 #[.val (.ref x0), .val (.long x1), .second, .val (.int x2)] [(.int x2), (.ref x0)])) _
    refine st6 _ ?_
    show Steps p.tables e below (T6.setTop (mkF m 14 #[.val (.ref x0), .val (.long x1), .second, .val (.int x2)] [])) _
    exact X6.returnOut hx hret (hb hby d1_14) hr
  · show Q1 Z x0 x1 x2 u_epoch_x0 u_leader_x0 h0 n0 _ T6.heap _
    rw [e6]
    exact ⟨rfl, N6, K6, P7, P8, P9⟩
-- body 4: com/example/nodes_in_quorum/nodesinquorum/quorum/Promise.allows:(JI)Z
theorem d4_0 : decode prog_88_method_4_code 0 = .ok (.lload_n 1, 1) := by decide +kernel
theorem d4_1 : decode prog_88_method_4_code 1 = .ok (.aload_n 0, 1) := by decide +kernel
theorem d4_2 : decode prog_88_method_4_code 2 = .ok (.getfield 7, 3) := by decide +kernel
theorem d4_5 : decode prog_88_method_4_code 5 = .ok (.lcmp, 1) := by decide +kernel
theorem d4_6 : decode prog_88_method_4_code 6 = .ok (.ifCond .gt 20, 3) := by decide +kernel
theorem d4_9 : decode prog_88_method_4_code 9 = .ok (.lload_n 1, 1) := by decide +kernel
theorem d4_10 : decode prog_88_method_4_code 10 = .ok (.aload_n 0, 1) := by decide +kernel
theorem d4_11 : decode prog_88_method_4_code 11 = .ok (.getfield 7, 3) := by decide +kernel
theorem d4_14 : decode prog_88_method_4_code 14 = .ok (.lcmp, 1) := by decide +kernel
theorem d4_15 : decode prog_88_method_4_code 15 = .ok (.ifCond .ne 15, 3) := by decide +kernel
theorem d4_18 : decode prog_88_method_4_code 18 = .ok (.iload_n 3, 1) := by decide +kernel
theorem d4_19 : decode prog_88_method_4_code 19 = .ok (.aload_n 0, 1) := by decide +kernel
theorem d4_20 : decode prog_88_method_4_code 20 = .ok (.getfield 13, 3) := by decide +kernel
theorem d4_23 : decode prog_88_method_4_code 23 = .ok (.if_icmp .ne 7, 3) := by decide +kernel
theorem d4_26 : decode prog_88_method_4_code 26 = .ok (.iconst 1, 1) := by decide +kernel
theorem d4_27 : decode prog_88_method_4_code 27 = .ok (.goto 4, 3) := by decide +kernel
theorem d4_30 : decode prog_88_method_4_code 30 = .ok (.iconst 0, 1) := by decide +kernel
theorem d4_31 : decode prog_88_method_4_code 31 = .ok (.ireturn, 1) := by decide +kernel
theorem ef_4 (m : MethodId) (x0 : Addr) (x1 : Int64) (x2 : Int32) : entryFrame m #[(.ref x0), (.long x1), (.int x2)] 4 = mkF m 0 #[.val (.ref x0), .val (.long x1), .second, .val (.int x2)] [] := by first | (simp [entryFrame, mkF, argsToLocals, Value.category]; done) | rfl
def f4_j10 (x1 : Int64) (x2 : Int32) (w_epoch_x0 : Int64) (w_leader_x0 : Int32) : Int32 := if if_icmp.holds .ne x2 w_leader_x0 = true then (0 : Int32) else (1 : Int32)
def f4_j14 (x1 : Int64) (x2 : Int32) (w_epoch_x0 : Int64) (w_leader_x0 : Int32) : Int32 := if ifCond.holds .ne (own_cmp x1 w_epoch_x0) = true then (0 : Int32) else (f4_j10 x1 x2 w_epoch_x0 w_leader_x0)
def f4_j17 (x1 : Int64) (x2 : Int32) (w_epoch_x0 : Int64) (w_leader_x0 : Int32) : Int32 := if ifCond.holds .gt (own_cmp x1 w_epoch_x0) = true then (1 : Int32) else (f4_j14 x1 x2 w_epoch_x0 w_leader_x0)
def f4 (x1 : Int64) (x2 : Int32) (w_epoch_x0 : Int64) (w_leader_x0 : Int32) : Int32 := (nar .boolean (f4_j17 x1 x2 w_epoch_x0 w_leader_x0))
def Q4 (Z : State) (x0 : Addr) (x1 : Int64) (x2 : Int32) (w_epoch_x0 : Int64) (w_leader_x0 : Int32) (h0 : Heap) (n0 : Nat) (v : Option Value) (h : Heap) (L : List Loc) : Prop := v = some (.int (f4 x1 x2 w_epoch_x0 w_leader_x0)) ∧ Fr n0 L ∧ h = h0
set_option maxRecDepth 65536 in
set_option maxHeartbeats 40000000 in
theorem rm4 (l : Launch) (Z : State) (a0 : Array Value) (hw : ∀ d ∈ tables_1, d.before a0 Z = true) (ws : List Jvm.Cond) (x0 : Addr) (x1 : Int64) (x2 : Int32) (w_epoch_x0 : Int64) (w_leader_x0 : Int32) (h0 : Heap) (n0 : Nat) (Z0 : n0 ≤ h0.size) (F_x0_epoch : Fld Z h0 x0 "com/example/nodes_in_quorum/nodesinquorum/quorum/Promise" "epoch" "J" (.long w_epoch_x0)) (F_x0_leader : Fld Z h0 x0 "com/example/nodes_in_quorum/nodesinquorum/quorum/Promise" "leader" "I" (.int w_leader_x0)) :
    MetFree l (⟨"com/example/nodes_in_quorum/nodesinquorum/quorum/Promise", "allows", "(JI)Z"⟩ : MethodName) (head1 (Jvm.Cond.code (⟨"com/example/nodes_in_quorum/nodesinquorum/quorum/Promise", "allows", "(JI)Z"⟩ : MethodName) prog_88_method_4_code 4 (some .boolean) :: ws) ({ frames := 0, cells := 0, slots := 0, locals := 0 } : Room)) (fun a U => a = #[(.ref x0), (.long x1), (.int x2)] ∧ Z.Warmed39 U.vm ∧ U.heap = h0) (fun _ _ _ _ _ => True) (fun _ U o U' => ∃ v L, o = .returned v ∧ Q4 Z x0 x1 x2 w_epoch_x0 w_leader_x0 h0 n0 v U'.heap L ∧ FrameEnd U o U' L ({ frames := 0, cells := 0, slots := 0, locals := 0 } : Room).cells ({ frames := 0, cells := 0, slots := 0, locals := 0 } : Room).slots) := by
  refine MetFree.of_bodySF (plainFor_of_name pn_1) hisR ?_
  intro p e s m args below meth c s₁ Bd hml0 hP hK0
  obtain ⟨rfl, hZ, hh⟩ := hP
  have hx := Bd.exec
  have hby := Bd.bytes
  have hml : c.maxLocals = 4 := hml0
  have hown : s.vm.findClass "com/example/nodes_in_quorum/nodesinquorum/quorum/Promise" = some m.cls := findClass_of_methodNamed Bd.named
  have hnm := (name_of_methodNamed Bd.named Bd.method).1
  have hret : meth.sig.returnType = some .boolean := Bd.returns
  have hlk : meth.locks = false := Bd.notSynchronized
  have X0 : Stand p l e ({ frames := 0, cells := 0, slots := 0, locals := 0 } : Room) s m #[(.ref x0), (.long x1), (.int x2)] below meth c s₁ [] 0 0 := Stand.of_body Bd
  have e0 : s₁.heap = h0 := by rw [← hh, Bd.state]; rfl
  have N0 := Fr.nil n0
  have pre0 : ∀ t, Steps p.tables e below (s₁.setTop (mkF m 0 #[.val (.ref x0), .val (.long x1), .second, .val (.int x2)] [])) t → Steps p.tables e below (s₁.setTop (entryFrame m #[(.ref x0), (.long x1), (.int x2)] 4)) t := fun t k => castTop (ef_4 m x0 x1 x2) k
  obtain ⟨T1, X1, e1, st1⟩ := getF X0 hx hZ hown (host := "") (Or.inl (hw _ (List.mem_of_getElem? (i := 14) rfl))) Via.refl e0 F_x0_epoch (g := (mkF m 2 #[.val (.ref x0), .val (.long x1), .second, .val (.int x2)] [(.ref x0), (.long x1)])) rfl rfl (hb hby d4_2)
  have pre2 : ∀ t, Steps p.tables e below (T1.setTop (mkF m 6 #[.val (.ref x0), .val (.long x1), .second, .val (.int x2)] [(.int (own_cmp x1 w_epoch_x0))])) t → Steps p.tables e below (s₁.setTop (entryFrame m #[(.ref x0), (.long x1), (.int x2)] 4)) t := by
    intro t k
    refine pre0 _ ?_
    show Steps p.tables e below (s₁.setTop (mkF m 0 #[.val (.ref x0), .val (.long x1), .second, .val (.int x2)] [])) _
    refine XS.lloadN X0.here hx rfl (hb hby d4_0) rfl ?_
    show Steps p.tables e below (s₁.setTop (mkF m 1 #[.val (.ref x0), .val (.long x1), .second, .val (.int x2)] [(.long x1)])) _
    refine XS.aloadN X0.here hx rfl (hb hby d4_1) rfl rfl ?_
    show Steps p.tables e below (s₁.setTop (mkF m 2 #[.val (.ref x0), .val (.long x1), .second, .val (.int x2)] [(.ref x0), (.long x1)])) _
    refine st1 _ ?_
    show Steps p.tables e below (T1.setTop (mkF m 5 #[.val (.ref x0), .val (.long x1), .second, .val (.int x2)] [(.long w_epoch_x0), (.long x1)])) _
    refine XS.lcmp X1.here hx rfl (hb hby d4_5) rfl ?_
    exact k
  obtain ⟨T18, L18, X18, N18, e18, pre18⟩ : ∃ (T' : State) (L' : List Loc), Stand p l e ({ frames := 0, cells := 0, slots := 0, locals := 0 } : Room) s m #[(.ref x0), (.long x1), (.int x2)] below meth c T' L' 0 0 ∧ Fr n0 L' ∧ T'.heap = h0 ∧ ∀ t, Steps p.tables e below (T'.setTop (mkF m 31 #[.val (.ref x0), .val (.long x1), .second, .val (.int x2)] [(.int (f4_j17 x1 x2 w_epoch_x0 w_leader_x0))])) t → Steps p.tables e below (s₁.setTop (entryFrame m #[(.ref x0), (.long x1), (.int x2)] 4)) t := by
    rcases Bool.eq_false_or_eq_true (ifCond.holds .gt (own_cmp x1 w_epoch_x0)) with hc3 | hc3
    · have pre19 : ∀ t, Steps p.tables e below (T1.setTop (mkF m 31 #[.val (.ref x0), .val (.long x1), .second, .val (.int x2)] [(.int (1 : Int32))])) t → Steps p.tables e below (s₁.setTop (entryFrame m #[(.ref x0), (.long x1), (.int x2)] 4)) t := by
        intro t k
        refine pre2 _ ?_
        show Steps p.tables e below (T1.setTop (mkF m 6 #[.val (.ref x0), .val (.long x1), .second, .val (.int x2)] [(.int (own_cmp x1 w_epoch_x0))])) _
        refine XS.ifYes X1.here hx rfl (pc0 := 6) (pc' := 26) rfl (hb hby d4_6) rfl hc3 (by decide) (by decide) ?_
        show Steps p.tables e below (T1.setTop (mkF m 26 #[.val (.ref x0), .val (.long x1), .second, .val (.int x2)] [])) _
        refine XS.iconst X1.here hx rfl (hb hby d4_26) ?_
        show Steps p.tables e below (T1.setTop (mkF m 27 #[.val (.ref x0), .val (.long x1), .second, .val (.int x2)] [(.int (1 : Int32))])) _
        refine XS.goto X1.here hx rfl (pc0 := 27) (pc' := 31) rfl (hb hby d4_27) (by decide) (by decide) ?_
        exact k
      have qj0 : (f4_j17 x1 x2 w_epoch_x0 w_leader_x0) = (1 : Int32) := if_pos hc3
      refine ⟨T1, _, X1, N0, e1, fun t k => pre19 _ ?_⟩
      rw [qj0] at k
      exact k
    · obtain ⟨T4, X4, e4, st4⟩ := getF X1 hx hZ hown (host := "") (Or.inl (hw _ (List.mem_of_getElem? (i := 14) rfl))) Via.refl e1 F_x0_epoch (g := (mkF m 11 #[.val (.ref x0), .val (.long x1), .second, .val (.int x2)] [(.ref x0), (.long x1)])) rfl rfl (hb hby d4_11)
      have pre5 : ∀ t, Steps p.tables e below (T4.setTop (mkF m 15 #[.val (.ref x0), .val (.long x1), .second, .val (.int x2)] [(.int (own_cmp x1 w_epoch_x0))])) t → Steps p.tables e below (s₁.setTop (entryFrame m #[(.ref x0), (.long x1), (.int x2)] 4)) t := by
        intro t k
        refine pre2 _ ?_
        show Steps p.tables e below (T1.setTop (mkF m 6 #[.val (.ref x0), .val (.long x1), .second, .val (.int x2)] [(.int (own_cmp x1 w_epoch_x0))])) _
        refine XS.ifNo X1.here hx rfl (hb hby d4_6) rfl hc3 ?_
        show Steps p.tables e below (T1.setTop (mkF m 9 #[.val (.ref x0), .val (.long x1), .second, .val (.int x2)] [])) _
        refine XS.lloadN X1.here hx rfl (hb hby d4_9) rfl ?_
        show Steps p.tables e below (T1.setTop (mkF m 10 #[.val (.ref x0), .val (.long x1), .second, .val (.int x2)] [(.long x1)])) _
        refine XS.aloadN X1.here hx rfl (hb hby d4_10) rfl rfl ?_
        show Steps p.tables e below (T1.setTop (mkF m 11 #[.val (.ref x0), .val (.long x1), .second, .val (.int x2)] [(.ref x0), (.long x1)])) _
        refine st4 _ ?_
        show Steps p.tables e below (T4.setTop (mkF m 14 #[.val (.ref x0), .val (.long x1), .second, .val (.int x2)] [(.long w_epoch_x0), (.long x1)])) _
        refine XS.lcmp X4.here hx rfl (hb hby d4_14) rfl ?_
        exact k
      obtain ⟨T15, L15, X15, N15, e15, pre15⟩ : ∃ (T' : State) (L' : List Loc), Stand p l e ({ frames := 0, cells := 0, slots := 0, locals := 0 } : Room) s m #[(.ref x0), (.long x1), (.int x2)] below meth c T' L' 0 0 ∧ Fr n0 L' ∧ T'.heap = h0 ∧ ∀ t, Steps p.tables e below (T'.setTop (mkF m 31 #[.val (.ref x0), .val (.long x1), .second, .val (.int x2)] [(.int (f4_j14 x1 x2 w_epoch_x0 w_leader_x0))])) t → Steps p.tables e below (s₁.setTop (entryFrame m #[(.ref x0), (.long x1), (.int x2)] 4)) t := by
        rcases Bool.eq_false_or_eq_true (ifCond.holds .ne (own_cmp x1 w_epoch_x0)) with hc6 | hc6
        · have pre16 : ∀ t, Steps p.tables e below (T4.setTop (mkF m 31 #[.val (.ref x0), .val (.long x1), .second, .val (.int x2)] [(.int (0 : Int32))])) t → Steps p.tables e below (s₁.setTop (entryFrame m #[(.ref x0), (.long x1), (.int x2)] 4)) t := by
            intro t k
            refine pre5 _ ?_
            show Steps p.tables e below (T4.setTop (mkF m 15 #[.val (.ref x0), .val (.long x1), .second, .val (.int x2)] [(.int (own_cmp x1 w_epoch_x0))])) _
            refine XS.ifYes X4.here hx rfl (pc0 := 15) (pc' := 30) rfl (hb hby d4_15) rfl hc6 (by decide) (by decide) ?_
            show Steps p.tables e below (T4.setTop (mkF m 30 #[.val (.ref x0), .val (.long x1), .second, .val (.int x2)] [])) _
            refine XS.iconst X4.here hx rfl (hb hby d4_30) ?_
            exact k
          have qj0 : (f4_j14 x1 x2 w_epoch_x0 w_leader_x0) = (0 : Int32) := if_pos hc6
          refine ⟨T4, _, X4, N0, e4, fun t k => pre16 _ ?_⟩
          rw [qj0] at k
          exact k
        · obtain ⟨T7, X7, e7, st7⟩ := getF X4 hx hZ hown (host := "") (Or.inl (hw _ (List.mem_of_getElem? (i := 16) rfl))) Via.refl e4 F_x0_leader (g := (mkF m 20 #[.val (.ref x0), .val (.long x1), .second, .val (.int x2)] [(.ref x0), (.int x2)])) rfl rfl (hb hby d4_20)
          have pre8 : ∀ t, Steps p.tables e below (T7.setTop (mkF m 23 #[.val (.ref x0), .val (.long x1), .second, .val (.int x2)] [(.int w_leader_x0), (.int x2)])) t → Steps p.tables e below (s₁.setTop (entryFrame m #[(.ref x0), (.long x1), (.int x2)] 4)) t := by
            intro t k
            refine pre5 _ ?_
            show Steps p.tables e below (T4.setTop (mkF m 15 #[.val (.ref x0), .val (.long x1), .second, .val (.int x2)] [(.int (own_cmp x1 w_epoch_x0))])) _
            refine XS.ifNo X4.here hx rfl (hb hby d4_15) rfl hc6 ?_
            show Steps p.tables e below (T4.setTop (mkF m 18 #[.val (.ref x0), .val (.long x1), .second, .val (.int x2)] [])) _
            refine XS.iloadN X4.here hx rfl (hb hby d4_18) rfl ?_
            show Steps p.tables e below (T4.setTop (mkF m 19 #[.val (.ref x0), .val (.long x1), .second, .val (.int x2)] [(.int x2)])) _
            refine XS.aloadN X4.here hx rfl (hb hby d4_19) rfl rfl ?_
            show Steps p.tables e below (T4.setTop (mkF m 20 #[.val (.ref x0), .val (.long x1), .second, .val (.int x2)] [(.ref x0), (.int x2)])) _
            refine st7 _ ?_
            exact k
          obtain ⟨T11, L11, X11, N11, e11, pre11⟩ : ∃ (T' : State) (L' : List Loc), Stand p l e ({ frames := 0, cells := 0, slots := 0, locals := 0 } : Room) s m #[(.ref x0), (.long x1), (.int x2)] below meth c T' L' 0 0 ∧ Fr n0 L' ∧ T'.heap = h0 ∧ ∀ t, Steps p.tables e below (T'.setTop (mkF m 31 #[.val (.ref x0), .val (.long x1), .second, .val (.int x2)] [(.int (f4_j10 x1 x2 w_epoch_x0 w_leader_x0))])) t → Steps p.tables e below (s₁.setTop (entryFrame m #[(.ref x0), (.long x1), (.int x2)] 4)) t := by
            rcases Bool.eq_false_or_eq_true (if_icmp.holds .ne x2 w_leader_x0) with hc9 | hc9
            · have pre12 : ∀ t, Steps p.tables e below (T7.setTop (mkF m 31 #[.val (.ref x0), .val (.long x1), .second, .val (.int x2)] [(.int (0 : Int32))])) t → Steps p.tables e below (s₁.setTop (entryFrame m #[(.ref x0), (.long x1), (.int x2)] 4)) t := by
                intro t k
                refine pre8 _ ?_
                show Steps p.tables e below (T7.setTop (mkF m 23 #[.val (.ref x0), .val (.long x1), .second, .val (.int x2)] [(.int w_leader_x0), (.int x2)])) _
                refine XS.icmpYes X7.here hx rfl (pc0 := 23) (pc' := 30) rfl (hb hby d4_23) rfl hc9 (by decide) (by decide) ?_
                show Steps p.tables e below (T7.setTop (mkF m 30 #[.val (.ref x0), .val (.long x1), .second, .val (.int x2)] [])) _
                refine XS.iconst X7.here hx rfl (hb hby d4_30) ?_
                exact k
              have qj0 : (f4_j10 x1 x2 w_epoch_x0 w_leader_x0) = (0 : Int32) := if_pos hc9
              refine ⟨T7, _, X7, N0, e7, fun t k => pre12 _ ?_⟩
              rw [qj0] at k
              exact k
            · have pre13 : ∀ t, Steps p.tables e below (T7.setTop (mkF m 31 #[.val (.ref x0), .val (.long x1), .second, .val (.int x2)] [(.int (1 : Int32))])) t → Steps p.tables e below (s₁.setTop (entryFrame m #[(.ref x0), (.long x1), (.int x2)] 4)) t := by
                intro t k
                refine pre8 _ ?_
                show Steps p.tables e below (T7.setTop (mkF m 23 #[.val (.ref x0), .val (.long x1), .second, .val (.int x2)] [(.int w_leader_x0), (.int x2)])) _
                refine XS.icmpNo X7.here hx rfl (hb hby d4_23) rfl hc9 ?_
                show Steps p.tables e below (T7.setTop (mkF m 26 #[.val (.ref x0), .val (.long x1), .second, .val (.int x2)] [])) _
                refine XS.iconst X7.here hx rfl (hb hby d4_26) ?_
                show Steps p.tables e below (T7.setTop (mkF m 27 #[.val (.ref x0), .val (.long x1), .second, .val (.int x2)] [(.int (1 : Int32))])) _
                refine XS.goto X7.here hx rfl (pc0 := 27) (pc' := 31) rfl (hb hby d4_27) (by decide) (by decide) ?_
                exact k
              have qj0 : (f4_j10 x1 x2 w_epoch_x0 w_leader_x0) = (1 : Int32) := if_neg (own_nt hc9)
              refine ⟨T7, _, X7, N0, e7, fun t k => pre13 _ ?_⟩
              rw [qj0] at k
              exact k
          have qj0 : (f4_j14 x1 x2 w_epoch_x0 w_leader_x0) = (f4_j10 x1 x2 w_epoch_x0 w_leader_x0) := if_neg (own_nt hc6)
          refine ⟨T11, _, X11, N11, e11, fun t k => pre11 _ ?_⟩
          rw [qj0] at k
          exact k
      have qj0 : (f4_j17 x1 x2 w_epoch_x0 w_leader_x0) = (f4_j14 x1 x2 w_epoch_x0 w_leader_x0) := if_neg (own_nt hc3)
      refine ⟨T15, _, X15, N15, e15, fun t k => pre15 _ ?_⟩
      rw [qj0] at k
      exact k
  obtain ⟨fs, hr, hrun, hended, hW, hsame⟩ := X18.leave (v := some (.int (nar .boolean (f4_j17 x1 x2 w_epoch_x0 w_leader_x0)))) (fun h => by rw [hret] at h; cases h)
  refine ⟨_, _, pre18 _ ?_, hrun, hended, _, _, rfl, ?_, ⟨_, rfl⟩, hW, hsame.mono (by decide) (by decide)⟩
  · show Steps p.tables e below (T18.setTop (mkF m 31 #[.val (.ref x0), .val (.long x1), .second, .val (.int x2)] [(.int (f4_j17 x1 x2 w_epoch_x0 w_leader_x0))])) _
    exact retN X18 hx (t := .boolean) hret (by simp) (hb hby d4_31) hr
  · show Q4 Z x0 x1 x2 w_epoch_x0 w_leader_x0 h0 n0 _ T18.heap _
    rw [e18]
    have rr : f4 x1 x2 w_epoch_x0 w_leader_x0 = (nar .boolean (f4_j17 x1 x2 w_epoch_x0 w_leader_x0)) := rfl
    exact ⟨congrArg (fun z => some (Value.int z)) rr.symm, N18, rfl⟩
theorem pd_1 : parseMethodDescriptor "(JI)V" = some ⟨[.long, .int], none⟩ := by decide +kernel
theorem pd_2 : parseMethodDescriptor "(JI)Z" = some ⟨[.long, .int], some .boolean⟩ := by decide +kernel
-- body 0: com/example/nodes_in_quorum/nodesinquorum/quorum/PromiseAllowsPinLaw.law:(JIJII)Z
theorem pn_2 : plainName "com/example/nodes_in_quorum/nodesinquorum/quorum/PromiseAllowsPinLaw" = true := by first | (simp [plainName, overriddenIn]; done) | decide +kernel
theorem ef_0 (m : MethodId) (x0 : Int64) (x1 : Int32) (x2 : Int64) (x3 : Int32) (x4 : Int32) : entryFrame m #[(.long x0), (.int x1), (.long x2), (.int x3), (.int x4)] maxLocals = mkF m 0 #[.val (.long x0), .second, .val (.int x1), .val (.long x2), .second, .val (.int x3), .val (.int x4), .unset, .unset, .unset, .unset, .unset, .unset, .unset, .unset, .unset] [] := by first | (simp [entryFrame, mkF, argsToLocals, Value.category, maxLocals]; done) | rfl
def f0_j3 (x0 : Int64) (x1 : Int32) (x2 : Int64) (x3 : Int32) (x4 : Int32) : Int64 := if ifCond.holds .eq (x4 &&& (1 : Int32)) = true then x2 else x0
def f0_j9 (x0 : Int64) (x1 : Int32) (x2 : Int64) (x3 : Int32) (x4 : Int32) : Int32 := if ifCond.holds .eq (x4 &&& (2 : Int32)) = true then x3 else x1
def f0_v30 (x0 : Int64) (x1 : Int32) (x2 : Int64) (x3 : Int32) (x4 : Int32) : Int32 := (f4 (f0_j3 x0 x1 x2 x3 x4) (f0_j9 x0 x1 x2 x3 x4) x0 x1)
def f0_v32 (x0 : Int64) (x1 : Int32) (x2 : Int64) (x3 : Int32) (x4 : Int32) : Int32 := (f4 x0 x1 (f0_j3 x0 x1 x2 x3 x4) (f0_j9 x0 x1 x2 x3 x4))
def f0_j39 (x0 : Int64) (x1 : Int32) (x2 : Int64) (x3 : Int32) (x4 : Int32) : Int32 := if if_icmp.holds .ne (f0_j9 x0 x1 x2 x3 x4) x1 = true then (0 : Int32) else (1 : Int32)
def f0_j43 (x0 : Int64) (x1 : Int32) (x2 : Int64) (x3 : Int32) (x4 : Int32) : Int32 := if ifCond.holds .ne (own_cmp (f0_j3 x0 x1 x2 x3 x4) x0) = true then (1 : Int32) else (f0_j39 x0 x1 x2 x3 x4)
def f0_j47 (x0 : Int64) (x1 : Int32) (x2 : Int64) (x3 : Int32) (x4 : Int32) : Int32 := if ifCond.holds .ge (own_cmp (f0_j3 x0 x1 x2 x3 x4) x0) = true then (f0_j43 x0 x1 x2 x3 x4) else (0 : Int32)
def f0_j54 (x0 : Int64) (x1 : Int32) (x2 : Int64) (x3 : Int32) (x4 : Int32) : Int32 := if if_icmp.holds .eq (f0_v32 x0 x1 x2 x3 x4) (f0_v30 x0 x1 x2 x3 x4) = true then (0 : Int32) else (1 : Int32)
def f0_j60 (x0 : Int64) (x1 : Int32) (x2 : Int64) (x3 : Int32) (x4 : Int32) : Int32 := if if_icmp.holds .ne (f0_v32 x0 x1 x2 x3 x4) (f0_v30 x0 x1 x2 x3 x4) = true then (0 : Int32) else (1 : Int32)
def f0_j64 (x0 : Int64) (x1 : Int32) (x2 : Int64) (x3 : Int32) (x4 : Int32) : Int32 := if ifCond.holds .ne (own_cmp (f0_j3 x0 x1 x2 x3 x4) x0) = true then (f0_j54 x0 x1 x2 x3 x4) else (f0_j60 x0 x1 x2 x3 x4)
def f0_j72 (x0 : Int64) (x1 : Int32) (x2 : Int64) (x3 : Int32) (x4 : Int32) : Int32 := if ifCond.holds .eq (f0_j64 x0 x1 x2 x3 x4) = true then (0 : Int32) else (1 : Int32)
def f0_j76 (x0 : Int64) (x1 : Int32) (x2 : Int64) (x3 : Int32) (x4 : Int32) : Int32 := if if_icmp.holds .ne (f0_v30 x0 x1 x2 x3 x4) (f0_j47 x0 x1 x2 x3 x4) = true then (0 : Int32) else (f0_j72 x0 x1 x2 x3 x4)
def f0 (x0 : Int64) (x1 : Int32) (x2 : Int64) (x3 : Int32) (x4 : Int32) : Int32 := (nar .boolean (f0_j76 x0 x1 x2 x3 x4))
def Q0 (Z : State) (x0 : Int64) (x1 : Int32) (x2 : Int64) (x3 : Int32) (x4 : Int32) (h0 : Heap) (n0 : Nat) (v : Option Value) (h : Heap) (L : List Loc) : Prop := v = some (.int (f0 x0 x1 x2 x3 x4)) ∧ Fr n0 L
set_option maxRecDepth 65536 in
set_option maxHeartbeats 40000000 in
theorem rm0 (l : Launch) (Z : State) (a0 : Array Value) (hw : ∀ d ∈ tables_1, d.before a0 Z = true) (ws : List Jvm.Cond) (x0 : Int64) (x1 : Int32) (x2 : Int64) (x3 : Int32) (x4 : Int32) (h0 : Heap) (n0 : Nat) (Z0 : n0 ≤ h0.size) :
    MetFree l x (head1 (Jvm.Cond.code x code maxLocals ret :: ws) room_1) (fun a U => a = #[(.long x0), (.int x1), (.long x2), (.int x3), (.int x4)] ∧ Z.Warmed39 U.vm ∧ U.heap = h0) (fun _ _ _ _ _ => True) (fun _ U o U' => ∃ v L, o = .returned v ∧ Q0 Z x0 x1 x2 x3 x4 h0 n0 v U'.heap L ∧ FrameEnd U o U' L 2 4) := by
  refine MetFree.of_bodySF (plainFor_of_name pn_2) hisR ?_
  intro p e s m args below meth c s₁ Bd hml0 hP hK0
  obtain ⟨rfl, hZ, hh⟩ := hP
  have hx := Bd.exec
  have hby := Bd.bytes
  have hml : c.maxLocals = 16 := hml0
  have hown : s.vm.findClass "com/example/nodes_in_quorum/nodesinquorum/quorum/PromiseAllowsPinLaw" = some m.cls := findClass_of_methodNamed Bd.named
  have hnm := (name_of_methodNamed Bd.named Bd.method).1
  have hret : meth.sig.returnType = ret := Bd.returns
  have hlk : meth.locks = false := Bd.notSynchronized
  have X0 : Stand p l e room_1 s m #[(.long x0), (.int x1), (.long x2), (.int x3), (.int x4)] below meth c s₁ [] 0 0 := Stand.of_body Bd
  have e0 : s₁.heap = h0 := by rw [← hh, Bd.state]; rfl
  have N0 := Fr.nil n0
  have pre0 : ∀ t, Steps p.tables e below (s₁.setTop (mkF m 0 #[.val (.long x0), .second, .val (.int x1), .val (.long x2), .second, .val (.int x3), .val (.int x4), .unset, .unset, .unset, .unset, .unset, .unset, .unset, .unset, .unset] [])) t → Steps p.tables e below (s₁.setTop (entryFrame m #[(.long x0), (.int x1), (.long x2), (.int x3), (.int x4)] maxLocals)) t := fun t k => castTop (ef_0 m x0 x1 x2 x3 x4) k
  have pre1 : ∀ t, Steps p.tables e below (s₁.setTop (mkF m 4 #[.val (.long x0), .second, .val (.int x1), .val (.long x2), .second, .val (.int x3), .val (.int x4), .unset, .unset, .unset, .unset, .unset, .unset, .unset, .unset, .unset] [(.int (x4 &&& (1 : Int32)))])) t → Steps p.tables e below (s₁.setTop (entryFrame m #[(.long x0), (.int x1), (.long x2), (.int x3), (.int x4)] maxLocals)) t := by
    intro t k
    refine pre0 _ ?_
    show Steps p.tables e below (s₁.setTop (mkF m 0 #[.val (.long x0), .second, .val (.int x1), .val (.long x2), .second, .val (.int x3), .val (.int x4), .unset, .unset, .unset, .unset, .unset, .unset, .unset, .unset, .unset] [])) _
    refine XS.iload X0.here hx rfl (hb hby at_0) rfl ?_
    show Steps p.tables e below (s₁.setTop (mkF m 2 #[.val (.long x0), .second, .val (.int x1), .val (.long x2), .second, .val (.int x3), .val (.int x4), .unset, .unset, .unset, .unset, .unset, .unset, .unset, .unset, .unset] [(.int x4)])) _
    refine XS.iconst X0.here hx rfl (hb hby at_2) ?_
    show Steps p.tables e below (s₁.setTop (mkF m 3 #[.val (.long x0), .second, .val (.int x1), .val (.long x2), .second, .val (.int x3), .val (.int x4), .unset, .unset, .unset, .unset, .unset, .unset, .unset, .unset, .unset] [(.int (1 : Int32)), (.int x4)])) _
    refine XS.iand X0.here hx rfl (hb hby at_3) rfl ?_
    exact k
  obtain ⟨T4, L4, X4, N4, e4, pre4⟩ : ∃ (T' : State) (L' : List Loc), Stand p l e room_1 s m #[(.long x0), (.int x1), (.long x2), (.int x3), (.int x4)] below meth c T' L' 0 0 ∧ Fr n0 L' ∧ T'.heap = h0 ∧ ∀ t, Steps p.tables e below (T'.setTop (mkF m 12 #[.val (.long x0), .second, .val (.int x1), .val (.long x2), .second, .val (.int x3), .val (.int x4), .unset, .unset, .unset, .unset, .unset, .unset, .unset, .unset, .unset] [(.long (f0_j3 x0 x1 x2 x3 x4))])) t → Steps p.tables e below (s₁.setTop (entryFrame m #[(.long x0), (.int x1), (.long x2), (.int x3), (.int x4)] maxLocals)) t := by
    rcases Bool.eq_false_or_eq_true (ifCond.holds .eq (x4 &&& (1 : Int32))) with hc2 | hc2
    · have pre5 : ∀ t, Steps p.tables e below (s₁.setTop (mkF m 12 #[.val (.long x0), .second, .val (.int x1), .val (.long x2), .second, .val (.int x3), .val (.int x4), .unset, .unset, .unset, .unset, .unset, .unset, .unset, .unset, .unset] [(.long x2)])) t → Steps p.tables e below (s₁.setTop (entryFrame m #[(.long x0), (.int x1), (.long x2), (.int x3), (.int x4)] maxLocals)) t := by
        intro t k
        refine pre1 _ ?_
        show Steps p.tables e below (s₁.setTop (mkF m 4 #[.val (.long x0), .second, .val (.int x1), .val (.long x2), .second, .val (.int x3), .val (.int x4), .unset, .unset, .unset, .unset, .unset, .unset, .unset, .unset, .unset] [(.int (x4 &&& (1 : Int32)))])) _
        refine XS.ifYes X0.here hx rfl (pc0 := 4) (pc' := 11) rfl (hb hby at_4) rfl hc2 (by decide) (by decide) ?_
        show Steps p.tables e below (s₁.setTop (mkF m 11 #[.val (.long x0), .second, .val (.int x1), .val (.long x2), .second, .val (.int x3), .val (.int x4), .unset, .unset, .unset, .unset, .unset, .unset, .unset, .unset, .unset] [])) _
        refine XS.lloadN X0.here hx rfl (hb hby at_11) rfl ?_
        exact k
      have qj0 : (f0_j3 x0 x1 x2 x3 x4) = x2 := if_pos hc2
      refine ⟨s₁, _, X0, N0, e0, fun t k => pre5 _ ?_⟩
      rw [qj0] at k
      exact k
    · have pre6 : ∀ t, Steps p.tables e below (s₁.setTop (mkF m 12 #[.val (.long x0), .second, .val (.int x1), .val (.long x2), .second, .val (.int x3), .val (.int x4), .unset, .unset, .unset, .unset, .unset, .unset, .unset, .unset, .unset] [(.long x0)])) t → Steps p.tables e below (s₁.setTop (entryFrame m #[(.long x0), (.int x1), (.long x2), (.int x3), (.int x4)] maxLocals)) t := by
        intro t k
        refine pre1 _ ?_
        show Steps p.tables e below (s₁.setTop (mkF m 4 #[.val (.long x0), .second, .val (.int x1), .val (.long x2), .second, .val (.int x3), .val (.int x4), .unset, .unset, .unset, .unset, .unset, .unset, .unset, .unset, .unset] [(.int (x4 &&& (1 : Int32)))])) _
        refine XS.ifNo X0.here hx rfl (hb hby at_4) rfl hc2 ?_
        show Steps p.tables e below (s₁.setTop (mkF m 7 #[.val (.long x0), .second, .val (.int x1), .val (.long x2), .second, .val (.int x3), .val (.int x4), .unset, .unset, .unset, .unset, .unset, .unset, .unset, .unset, .unset] [])) _
        refine XS.lloadN X0.here hx rfl (hb hby at_7) rfl ?_
        show Steps p.tables e below (s₁.setTop (mkF m 8 #[.val (.long x0), .second, .val (.int x1), .val (.long x2), .second, .val (.int x3), .val (.int x4), .unset, .unset, .unset, .unset, .unset, .unset, .unset, .unset, .unset] [(.long x0)])) _
        refine XS.goto X0.here hx rfl (pc0 := 8) (pc' := 12) rfl (hb hby at_8) (by decide) (by decide) ?_
        exact k
      have qj0 : (f0_j3 x0 x1 x2 x3 x4) = x0 := if_neg (own_nt hc2)
      refine ⟨s₁, _, X0, N0, e0, fun t k => pre6 _ ?_⟩
      rw [qj0] at k
      exact k
  have pre7 : ∀ t, Steps p.tables e below (T4.setTop (mkF m 18 #[.val (.long x0), .second, .val (.int x1), .val (.long x2), .second, .val (.int x3), .val (.int x4), .val (.long (f0_j3 x0 x1 x2 x3 x4)), .second, .unset, .unset, .unset, .unset, .unset, .unset, .unset] [(.int (x4 &&& (2 : Int32)))])) t → Steps p.tables e below (s₁.setTop (entryFrame m #[(.long x0), (.int x1), (.long x2), (.int x3), (.int x4)] maxLocals)) t := by
    intro t k
    refine pre4 _ ?_
    show Steps p.tables e below (T4.setTop (mkF m 12 #[.val (.long x0), .second, .val (.int x1), .val (.long x2), .second, .val (.int x3), .val (.int x4), .unset, .unset, .unset, .unset, .unset, .unset, .unset, .unset, .unset] [(.long (f0_j3 x0 x1 x2 x3 x4))])) _
    refine XS.lstore X4.here hx rfl (hb hby at_12) rfl (l' := #[.val (.long x0), .second, .val (.int x1), .val (.long x2), .second, .val (.int x3), .val (.int x4), .val (.long (f0_j3 x0 x1 x2 x3 x4)), .second, .unset, .unset, .unset, .unset, .unset, .unset, .unset]) rfl ?_
    show Steps p.tables e below (T4.setTop (mkF m 14 #[.val (.long x0), .second, .val (.int x1), .val (.long x2), .second, .val (.int x3), .val (.int x4), .val (.long (f0_j3 x0 x1 x2 x3 x4)), .second, .unset, .unset, .unset, .unset, .unset, .unset, .unset] [])) _
    refine XS.iload X4.here hx rfl (hb hby at_14) rfl ?_
    show Steps p.tables e below (T4.setTop (mkF m 16 #[.val (.long x0), .second, .val (.int x1), .val (.long x2), .second, .val (.int x3), .val (.int x4), .val (.long (f0_j3 x0 x1 x2 x3 x4)), .second, .unset, .unset, .unset, .unset, .unset, .unset, .unset] [(.int x4)])) _
    refine XS.iconst X4.here hx rfl (hb hby at_16) ?_
    show Steps p.tables e below (T4.setTop (mkF m 17 #[.val (.long x0), .second, .val (.int x1), .val (.long x2), .second, .val (.int x3), .val (.int x4), .val (.long (f0_j3 x0 x1 x2 x3 x4)), .second, .unset, .unset, .unset, .unset, .unset, .unset, .unset] [(.int (2 : Int32)), (.int x4)])) _
    refine XS.iand X4.here hx rfl (hb hby at_17) rfl ?_
    exact k
  obtain ⟨T10, L10, X10, N10, e10, pre10⟩ : ∃ (T' : State) (L' : List Loc), Stand p l e room_1 s m #[(.long x0), (.int x1), (.long x2), (.int x3), (.int x4)] below meth c T' L' 0 0 ∧ Fr n0 L' ∧ T'.heap = h0 ∧ ∀ t, Steps p.tables e below (T'.setTop (mkF m 27 #[.val (.long x0), .second, .val (.int x1), .val (.long x2), .second, .val (.int x3), .val (.int x4), .val (.long (f0_j3 x0 x1 x2 x3 x4)), .second, .unset, .unset, .unset, .unset, .unset, .unset, .unset] [(.int (f0_j9 x0 x1 x2 x3 x4))])) t → Steps p.tables e below (s₁.setTop (entryFrame m #[(.long x0), (.int x1), (.long x2), (.int x3), (.int x4)] maxLocals)) t := by
    rcases Bool.eq_false_or_eq_true (ifCond.holds .eq (x4 &&& (2 : Int32))) with hc8 | hc8
    · have pre11 : ∀ t, Steps p.tables e below (T4.setTop (mkF m 27 #[.val (.long x0), .second, .val (.int x1), .val (.long x2), .second, .val (.int x3), .val (.int x4), .val (.long (f0_j3 x0 x1 x2 x3 x4)), .second, .unset, .unset, .unset, .unset, .unset, .unset, .unset] [(.int x3)])) t → Steps p.tables e below (s₁.setTop (entryFrame m #[(.long x0), (.int x1), (.long x2), (.int x3), (.int x4)] maxLocals)) t := by
        intro t k
        refine pre7 _ ?_
        show Steps p.tables e below (T4.setTop (mkF m 18 #[.val (.long x0), .second, .val (.int x1), .val (.long x2), .second, .val (.int x3), .val (.int x4), .val (.long (f0_j3 x0 x1 x2 x3 x4)), .second, .unset, .unset, .unset, .unset, .unset, .unset, .unset] [(.int (x4 &&& (2 : Int32)))])) _
        refine XS.ifYes X4.here hx rfl (pc0 := 18) (pc' := 25) rfl (hb hby at_18) rfl hc8 (by decide) (by decide) ?_
        show Steps p.tables e below (T4.setTop (mkF m 25 #[.val (.long x0), .second, .val (.int x1), .val (.long x2), .second, .val (.int x3), .val (.int x4), .val (.long (f0_j3 x0 x1 x2 x3 x4)), .second, .unset, .unset, .unset, .unset, .unset, .unset, .unset] [])) _
        refine XS.iload X4.here hx rfl (hb hby at_25) rfl ?_
        exact k
      have qj0 : (f0_j9 x0 x1 x2 x3 x4) = x3 := if_pos hc8
      refine ⟨T4, _, X4, N4, e4, fun t k => pre11 _ ?_⟩
      rw [qj0] at k
      exact k
    · have pre12 : ∀ t, Steps p.tables e below (T4.setTop (mkF m 27 #[.val (.long x0), .second, .val (.int x1), .val (.long x2), .second, .val (.int x3), .val (.int x4), .val (.long (f0_j3 x0 x1 x2 x3 x4)), .second, .unset, .unset, .unset, .unset, .unset, .unset, .unset] [(.int x1)])) t → Steps p.tables e below (s₁.setTop (entryFrame m #[(.long x0), (.int x1), (.long x2), (.int x3), (.int x4)] maxLocals)) t := by
        intro t k
        refine pre7 _ ?_
        show Steps p.tables e below (T4.setTop (mkF m 18 #[.val (.long x0), .second, .val (.int x1), .val (.long x2), .second, .val (.int x3), .val (.int x4), .val (.long (f0_j3 x0 x1 x2 x3 x4)), .second, .unset, .unset, .unset, .unset, .unset, .unset, .unset] [(.int (x4 &&& (2 : Int32)))])) _
        refine XS.ifNo X4.here hx rfl (hb hby at_18) rfl hc8 ?_
        show Steps p.tables e below (T4.setTop (mkF m 21 #[.val (.long x0), .second, .val (.int x1), .val (.long x2), .second, .val (.int x3), .val (.int x4), .val (.long (f0_j3 x0 x1 x2 x3 x4)), .second, .unset, .unset, .unset, .unset, .unset, .unset, .unset] [])) _
        refine XS.iloadN X4.here hx rfl (hb hby at_21) rfl ?_
        show Steps p.tables e below (T4.setTop (mkF m 22 #[.val (.long x0), .second, .val (.int x1), .val (.long x2), .second, .val (.int x3), .val (.int x4), .val (.long (f0_j3 x0 x1 x2 x3 x4)), .second, .unset, .unset, .unset, .unset, .unset, .unset, .unset] [(.int x1)])) _
        refine XS.goto X4.here hx rfl (pc0 := 22) (pc' := 27) rfl (hb hby at_22) (by decide) (by decide) ?_
        exact k
      have qj0 : (f0_j9 x0 x1 x2 x3 x4) = x1 := if_neg (own_nt hc8)
      refine ⟨T4, _, X4, N4, e4, fun t k => pre12 _ ?_⟩
      rw [qj0] at k
      exact k
  obtain ⟨T13, h13, X13, e13, E13, A13, D13, -, st13⟩ := newO X10 hx hZ hown (hw _ (List.mem_of_getElem? (i := 0) rfl)) (hw _ (List.mem_of_getElem? (i := 1) rfl)) (hw _ (List.mem_of_getElem? (i := 2) rfl)) e10 (g := (mkF m 29 #[.val (.long x0), .second, .val (.int x1), .val (.long x2), .second, .val (.int x3), .val (.int x4), .val (.long (f0_j3 x0 x1 x2 x3 x4)), .second, .val (.int (f0_j9 x0 x1 x2 x3 x4)), .unset, .unset, .unset, .unset, .unset, .unset] [])) rfl (hb hby at_29) (by decide) (by decide)
  obtain ⟨b13, gg13⟩ : ∃ z, z = h0.size := ⟨_, rfl⟩
  rw [← gg13] at A13 D13 st13
  have g_b13 : n0 ≤ b13 := Nat.le_trans Z0 (Nat.le_of_eq gg13.symm)
  have Z13 : n0 ≤ h13.size := Nat.le_trans Z0 E13.1
  have P14 : Fld Z h13 b13 "com/example/nodes_in_quorum/nodesinquorum/quorum/Promise" "epoch" "J" (.long (0 : Int64)) := D13 (Or.inr (hw _ (List.mem_of_getElem? (i := 15) rfl))) (ty := .long) (by decide)
  have P15 : Fld Z h13 b13 "com/example/nodes_in_quorum/nodesinquorum/quorum/Promise" "leader" "I" (.int (0 : Int32)) := D13 (Or.inr (hw _ (List.mem_of_getElem? (i := 17) rfl))) (ty := .int) (by decide)
  obtain ⟨_, _, ⟨T16, L16, k16, n16⟩, -, X16, ⟨Lc16, hQ16, l16, y16, z16⟩, st16⟩ := X13.specialBack hx (y := (⟨"com/example/nodes_in_quorum/nodesinquorum/quorum/Promise", "<init>", "(JI)V"⟩ : MethodName)) rfl hown (mvT hZ (hw _ (List.mem_of_getElem? (i := 3) rfl))) (mvT hZ (hw _ (List.mem_of_getElem? (i := 4) rfl))) (mvT hZ (hw _ (List.mem_of_getElem? (i := 5) rfl))) (by decide) (backOf (W := 1) (rm1 l Z a0 hw [] b13 x0 x1 (.long (0 : Int64)) (.int (0 : Int32)) h13 n0 Z13 A13 g_b13 P14 P15) hZ (hw _ (List.mem_of_getElem? (i := 5) rfl)) (hw _ (List.mem_of_getElem? (i := 2) rfl)) (by decide) (by decide)) (g := (mkF m 35 #[.val (.long x0), .second, .val (.int x1), .val (.long x2), .second, .val (.int x3), .val (.int x4), .val (.long (f0_j3 x0 x1 x2 x3 x4)), .second, .val (.int (f0_j9 x0 x1 x2 x3 x4)), .unset, .unset, .unset, .unset, .unset, .unset] [(.int x1), (.long x0), (.ref b13), (.ref b13)])) rfl (by rw [hml]; rfl) (Steps.refl _) (a := b13) (argsL := [(.long x0), (.int x1)]) (rest := [(.ref b13)]) (lenOf pd_1 rfl) rfl (by show 2 * 0 + _ ≤ _; exact Nat.le_of_eq rfl) (hb hby at_35) (fun _ _ => ⟨rfl, e13, (by decide : 1 + 0 ≤ _), (by decide : 2 + 0 ≤ _)⟩)
  dsimp only [Pt.U, Pt.locs, Pt.cells, Pt.slots] at X16 l16 y16 z16 st16 hQ16
  subst l16 y16 z16
  obtain ⟨rfl, Nq16, Kq16, G16_0, G16_1, G16_2⟩ := hQ16
  obtain ⟨h16, e16⟩ : ∃ z, T16.heap = z := ⟨_, rfl⟩
  rw [e16] at Kq16 G16_0 G16_1 G16_2
  have N16 := Fr.app N10 Nq16
  have Z16 : n0 ≤ h16.size := Nat.le_trans Z13 Kq16.1
  have P17 := A13.keep Kq16
  obtain ⟨T18, h18, X18, e18, E18, A18, D18, -, st18⟩ := newO X16 hx hZ hown (hw _ (List.mem_of_getElem? (i := 0) rfl)) (hw _ (List.mem_of_getElem? (i := 1) rfl)) (hw _ (List.mem_of_getElem? (i := 2) rfl)) e16 (g := (mkF m 40 #[.val (.long x0), .second, .val (.int x1), .val (.long x2), .second, .val (.int x3), .val (.int x4), .val (.long (f0_j3 x0 x1 x2 x3 x4)), .second, .val (.int (f0_j9 x0 x1 x2 x3 x4)), .val (.ref b13), .unset, .unset, .unset, .unset, .unset] [])) rfl (hb hby at_40) (by decide) (by decide)
  obtain ⟨b18, gg18⟩ : ∃ z, z = h16.size := ⟨_, rfl⟩
  rw [← gg18] at A18 D18 st18
  have ne_b13_b18 : b13 ≠ b18 := Nat.ne_of_lt (Nat.lt_of_lt_of_le G16_0.lt (Nat.le_of_eq gg18.symm))
  have g_b18 : n0 ≤ b18 := Nat.le_trans Z16 (Nat.le_of_eq gg18.symm)
  have Z18 : n0 ≤ h18.size := Nat.le_trans Z16 E18.1
  have P19 := G16_0.ext E18
  have P20 := G16_1.ext E18
  have P21 := G16_2.ext E18
  have P22 : Fld Z h18 b18 "com/example/nodes_in_quorum/nodesinquorum/quorum/Promise" "epoch" "J" (.long (0 : Int64)) := D18 (Or.inr (hw _ (List.mem_of_getElem? (i := 15) rfl))) (ty := .long) (by decide)
  have P23 : Fld Z h18 b18 "com/example/nodes_in_quorum/nodesinquorum/quorum/Promise" "leader" "I" (.int (0 : Int32)) := D18 (Or.inr (hw _ (List.mem_of_getElem? (i := 17) rfl))) (ty := .int) (by decide)
  obtain ⟨_, _, ⟨T24, L24, k24, n24⟩, -, X24, ⟨Lc24, hQ24, l24, y24, z24⟩, st24⟩ := X18.specialBack hx (y := (⟨"com/example/nodes_in_quorum/nodesinquorum/quorum/Promise", "<init>", "(JI)V"⟩ : MethodName)) rfl hown (mvT hZ (hw _ (List.mem_of_getElem? (i := 3) rfl))) (mvT hZ (hw _ (List.mem_of_getElem? (i := 4) rfl))) (mvT hZ (hw _ (List.mem_of_getElem? (i := 5) rfl))) (by decide) (backOf (W := 1) (rm1 l Z a0 hw [] b18 (f0_j3 x0 x1 x2 x3 x4) (f0_j9 x0 x1 x2 x3 x4) (.long (0 : Int64)) (.int (0 : Int32)) h18 n0 Z18 A18 g_b18 P22 P23) hZ (hw _ (List.mem_of_getElem? (i := 5) rfl)) (hw _ (List.mem_of_getElem? (i := 2) rfl)) (by decide) (by decide)) (g := (mkF m 48 #[.val (.long x0), .second, .val (.int x1), .val (.long x2), .second, .val (.int x3), .val (.int x4), .val (.long (f0_j3 x0 x1 x2 x3 x4)), .second, .val (.int (f0_j9 x0 x1 x2 x3 x4)), .val (.ref b13), .unset, .unset, .unset, .unset, .unset] [(.int (f0_j9 x0 x1 x2 x3 x4)), (.long (f0_j3 x0 x1 x2 x3 x4)), (.ref b18), (.ref b18)])) rfl (by rw [hml]; rfl) (Steps.refl _) (a := b18) (argsL := [(.long (f0_j3 x0 x1 x2 x3 x4)), (.int (f0_j9 x0 x1 x2 x3 x4))]) (rest := [(.ref b18)]) (lenOf pd_1 rfl) rfl (by show 2 * 0 + _ ≤ _; exact Nat.le_of_eq rfl) (hb hby at_48) (fun _ _ => ⟨rfl, e18, (by decide : 2 + 0 ≤ _), (by decide : 4 + 0 ≤ _)⟩)
  dsimp only [Pt.U, Pt.locs, Pt.cells, Pt.slots] at X24 l24 y24 z24 st24 hQ24
  subst l24 y24 z24
  obtain ⟨rfl, Nq24, Kq24, G24_0, G24_1, G24_2⟩ := hQ24
  obtain ⟨h24, e24⟩ : ∃ z, T24.heap = z := ⟨_, rfl⟩
  rw [e24] at Kq24 G24_0 G24_1 G24_2
  have N24 := Fr.app N16 Nq24
  have Z24 : n0 ≤ h24.size := Nat.le_trans Z18 Kq24.1
  have P25 := P19.keep Kq24
  have P26 := P20.keep Kq24 (ninS ne_b13_b18 nin0)
  have P27 := P21.keep Kq24 (ninS ne_b13_b18 nin0)
  have P28 := A18.keep Kq24
  obtain ⟨cq29, kq29, q29a, q29b, q29c⟩ := isOf hZ e24 P25
  obtain ⟨_, _, ⟨T29, L29, k29, n29⟩, -, X29, ⟨Lc29, hQ29, l29, y29, z29⟩, st29⟩ := X24.virtualBack hx (y := (⟨"com/example/nodes_in_quorum/nodesinquorum/quorum/Promise", "allows", "(JI)Z"⟩ : MethodName)) (z := (⟨"com/example/nodes_in_quorum/nodesinquorum/quorum/Promise", "allows", "(JI)Z"⟩ : MethodName)) hown (mvT hZ (hw _ (List.mem_of_getElem? (i := 18) rfl))) (mvT hZ (hw _ (List.mem_of_getElem? (i := 19) rfl))) (notFace_of_selects (args := #[]) (mvT hZ (hw _ (List.mem_of_getElem? (i := 21) rfl)))) (mvT hZ (hw _ (List.mem_of_getElem? (i := 21) rfl))) (mvT hZ (hw _ (List.mem_of_getElem? (i := 20) rfl))) (by decide) (backOf (W := 0) (rm4 l Z a0 hw [] b13 (f0_j3 x0 x1 x2 x3 x4) (f0_j9 x0 x1 x2 x3 x4) x0 x1 h24 n0 Z24 P26 P27) hZ (hw _ (List.mem_of_getElem? (i := 22) rfl)) (hw _ (List.mem_of_getElem? (i := 2) rfl)) (by decide) (by decide)) q29a q29c (g := (mkF m 59 #[.val (.long x0), .second, .val (.int x1), .val (.long x2), .second, .val (.int x3), .val (.int x4), .val (.long (f0_j3 x0 x1 x2 x3 x4)), .second, .val (.int (f0_j9 x0 x1 x2 x3 x4)), .val (.ref b13), .val (.ref b18), .unset, .unset, .unset, .unset] [(.int (f0_j9 x0 x1 x2 x3 x4)), (.long (f0_j3 x0 x1 x2 x3 x4)), (.ref b13)])) rfl (by rw [hml]; rfl) (Steps.refl _) (argsL := [(.long (f0_j3 x0 x1 x2 x3 x4)), (.int (f0_j9 x0 x1 x2 x3 x4))]) (rest := []) (lenOf pd_2 rfl) rfl (by show 2 * 0 + _ ≤ _; exact Nat.le_of_eq rfl) (hb hby at_59) (fun _ _ => ⟨rfl, e24, (by decide : 2 + 0 ≤ _), (by decide : 4 + 0 ≤ _)⟩)
  dsimp only [Pt.U, Pt.locs, Pt.cells, Pt.slots] at X29 l29 y29 z29 st29 hQ29
  subst l29 y29 z29
  obtain ⟨rfl, Nq29, e29⟩ := hQ29
  have N29 := Fr.app N24 Nq29
  obtain ⟨cq31, kq31, q31a, q31b, q31c⟩ := isOf hZ e29 G24_0
  obtain ⟨_, _, ⟨T31, L31, k31, n31⟩, -, X31, ⟨Lc31, hQ31, l31, y31, z31⟩, st31⟩ := X29.virtualBack hx (y := (⟨"com/example/nodes_in_quorum/nodesinquorum/quorum/Promise", "allows", "(JI)Z"⟩ : MethodName)) (z := (⟨"com/example/nodes_in_quorum/nodesinquorum/quorum/Promise", "allows", "(JI)Z"⟩ : MethodName)) hown (mvT hZ (hw _ (List.mem_of_getElem? (i := 18) rfl))) (mvT hZ (hw _ (List.mem_of_getElem? (i := 19) rfl))) (notFace_of_selects (args := #[]) (mvT hZ (hw _ (List.mem_of_getElem? (i := 21) rfl)))) (mvT hZ (hw _ (List.mem_of_getElem? (i := 21) rfl))) (mvT hZ (hw _ (List.mem_of_getElem? (i := 20) rfl))) (by decide) (backOf (W := 0) (rm4 l Z a0 hw [] b18 x0 x1 (f0_j3 x0 x1 x2 x3 x4) (f0_j9 x0 x1 x2 x3 x4) h24 n0 Z24 G24_1 G24_2) hZ (hw _ (List.mem_of_getElem? (i := 22) rfl)) (hw _ (List.mem_of_getElem? (i := 2) rfl)) (by decide) (by decide)) q31a q31c (g := (mkF m 68 #[.val (.long x0), .second, .val (.int x1), .val (.long x2), .second, .val (.int x3), .val (.int x4), .val (.long (f0_j3 x0 x1 x2 x3 x4)), .second, .val (.int (f0_j9 x0 x1 x2 x3 x4)), .val (.ref b13), .val (.ref b18), .val (.int (f0_v30 x0 x1 x2 x3 x4)), .unset, .unset, .unset] [(.int x1), (.long x0), (.ref b18)])) rfl (by rw [hml]; rfl) (Steps.refl _) (argsL := [(.long x0), (.int x1)]) (rest := []) (lenOf pd_2 rfl) rfl (by show 2 * 0 + _ ≤ _; exact Nat.le_of_eq rfl) (hb hby at_68) (fun _ _ => ⟨rfl, e29, (by decide : 2 + 0 ≤ _), (by decide : 4 + 0 ≤ _)⟩)
  dsimp only [Pt.U, Pt.locs, Pt.cells, Pt.slots] at X31 l31 y31 z31 st31 hQ31
  subst l31 y31 z31
  obtain ⟨rfl, Nq31, e31⟩ := hQ31
  have N31 := Fr.app N29 Nq31
  have pre33 : ∀ t, Steps p.tables e below (T31.setTop (mkF m 77 #[.val (.long x0), .second, .val (.int x1), .val (.long x2), .second, .val (.int x3), .val (.int x4), .val (.long (f0_j3 x0 x1 x2 x3 x4)), .second, .val (.int (f0_j9 x0 x1 x2 x3 x4)), .val (.ref b13), .val (.ref b18), .val (.int (f0_v30 x0 x1 x2 x3 x4)), .val (.int (f0_v32 x0 x1 x2 x3 x4)), .unset, .unset] [(.int (own_cmp (f0_j3 x0 x1 x2 x3 x4) x0))])) t → Steps p.tables e below (s₁.setTop (entryFrame m #[(.long x0), (.int x1), (.long x2), (.int x3), (.int x4)] maxLocals)) t := by
    intro t k
    refine pre10 _ ?_
    show Steps p.tables e below (T10.setTop (mkF m 27 #[.val (.long x0), .second, .val (.int x1), .val (.long x2), .second, .val (.int x3), .val (.int x4), .val (.long (f0_j3 x0 x1 x2 x3 x4)), .second, .unset, .unset, .unset, .unset, .unset, .unset, .unset] [(.int (f0_j9 x0 x1 x2 x3 x4))])) _
    refine XS.istore X10.here hx rfl (hb hby at_27) rfl (l' := #[.val (.long x0), .second, .val (.int x1), .val (.long x2), .second, .val (.int x3), .val (.int x4), .val (.long (f0_j3 x0 x1 x2 x3 x4)), .second, .val (.int (f0_j9 x0 x1 x2 x3 x4)), .unset, .unset, .unset, .unset, .unset, .unset]) rfl ?_
    show Steps p.tables e below (T10.setTop (mkF m 29 #[.val (.long x0), .second, .val (.int x1), .val (.long x2), .second, .val (.int x3), .val (.int x4), .val (.long (f0_j3 x0 x1 x2 x3 x4)), .second, .val (.int (f0_j9 x0 x1 x2 x3 x4)), .unset, .unset, .unset, .unset, .unset, .unset] [])) _
    refine st13 _ ?_
    show Steps p.tables e below (T13.setTop (mkF m 32 #[.val (.long x0), .second, .val (.int x1), .val (.long x2), .second, .val (.int x3), .val (.int x4), .val (.long (f0_j3 x0 x1 x2 x3 x4)), .second, .val (.int (f0_j9 x0 x1 x2 x3 x4)), .unset, .unset, .unset, .unset, .unset, .unset] [(.ref b13)])) _
    refine XS.dup X13.here hx rfl (hb hby at_32) rfl rfl ?_
    show Steps p.tables e below (T13.setTop (mkF m 33 #[.val (.long x0), .second, .val (.int x1), .val (.long x2), .second, .val (.int x3), .val (.int x4), .val (.long (f0_j3 x0 x1 x2 x3 x4)), .second, .val (.int (f0_j9 x0 x1 x2 x3 x4)), .unset, .unset, .unset, .unset, .unset, .unset] [(.ref b13), (.ref b13)])) _
    refine XS.lloadN X13.here hx rfl (hb hby at_33) rfl ?_
    show Steps p.tables e below (T13.setTop (mkF m 34 #[.val (.long x0), .second, .val (.int x1), .val (.long x2), .second, .val (.int x3), .val (.int x4), .val (.long (f0_j3 x0 x1 x2 x3 x4)), .second, .val (.int (f0_j9 x0 x1 x2 x3 x4)), .unset, .unset, .unset, .unset, .unset, .unset] [(.long x0), (.ref b13), (.ref b13)])) _
    refine XS.iloadN X13.here hx rfl (hb hby at_34) rfl ?_
    show Steps p.tables e below (T13.setTop (mkF m 35 #[.val (.long x0), .second, .val (.int x1), .val (.long x2), .second, .val (.int x3), .val (.int x4), .val (.long (f0_j3 x0 x1 x2 x3 x4)), .second, .val (.int (f0_j9 x0 x1 x2 x3 x4)), .unset, .unset, .unset, .unset, .unset, .unset] [(.int x1), (.long x0), (.ref b13), (.ref b13)])) _
    refine st16.trans ?_
    show Steps p.tables e below (T16.setTop (mkF m 38 #[.val (.long x0), .second, .val (.int x1), .val (.long x2), .second, .val (.int x3), .val (.int x4), .val (.long (f0_j3 x0 x1 x2 x3 x4)), .second, .val (.int (f0_j9 x0 x1 x2 x3 x4)), .unset, .unset, .unset, .unset, .unset, .unset] [(.ref b13)])) _
    refine XS.astore X16.here hx rfl (hb hby at_38) rfl rfl (l' := #[.val (.long x0), .second, .val (.int x1), .val (.long x2), .second, .val (.int x3), .val (.int x4), .val (.long (f0_j3 x0 x1 x2 x3 x4)), .second, .val (.int (f0_j9 x0 x1 x2 x3 x4)), .val (.ref b13), .unset, .unset, .unset, .unset, .unset]) rfl ?_
    show Steps p.tables e below (T16.setTop (mkF m 40 #[.val (.long x0), .second, .val (.int x1), .val (.long x2), .second, .val (.int x3), .val (.int x4), .val (.long (f0_j3 x0 x1 x2 x3 x4)), .second, .val (.int (f0_j9 x0 x1 x2 x3 x4)), .val (.ref b13), .unset, .unset, .unset, .unset, .unset] [])) _
    refine st18 _ ?_
    show Steps p.tables e below (T18.setTop (mkF m 43 #[.val (.long x0), .second, .val (.int x1), .val (.long x2), .second, .val (.int x3), .val (.int x4), .val (.long (f0_j3 x0 x1 x2 x3 x4)), .second, .val (.int (f0_j9 x0 x1 x2 x3 x4)), .val (.ref b13), .unset, .unset, .unset, .unset, .unset] [(.ref b18)])) _
    refine XS.dup X18.here hx rfl (hb hby at_43) rfl rfl ?_
    show Steps p.tables e below (T18.setTop (mkF m 44 #[.val (.long x0), .second, .val (.int x1), .val (.long x2), .second, .val (.int x3), .val (.int x4), .val (.long (f0_j3 x0 x1 x2 x3 x4)), .second, .val (.int (f0_j9 x0 x1 x2 x3 x4)), .val (.ref b13), .unset, .unset, .unset, .unset, .unset] [(.ref b18), (.ref b18)])) _
    refine XS.lload X18.here hx rfl (hb hby at_44) rfl ?_
    show Steps p.tables e below (T18.setTop (mkF m 46 #[.val (.long x0), .second, .val (.int x1), .val (.long x2), .second, .val (.int x3), .val (.int x4), .val (.long (f0_j3 x0 x1 x2 x3 x4)), .second, .val (.int (f0_j9 x0 x1 x2 x3 x4)), .val (.ref b13), .unset, .unset, .unset, .unset, .unset] [(.long (f0_j3 x0 x1 x2 x3 x4)), (.ref b18), (.ref b18)])) _
    refine XS.iload X18.here hx rfl (hb hby at_46) rfl ?_
    show Steps p.tables e below (T18.setTop (mkF m 48 #[.val (.long x0), .second, .val (.int x1), .val (.long x2), .second, .val (.int x3), .val (.int x4), .val (.long (f0_j3 x0 x1 x2 x3 x4)), .second, .val (.int (f0_j9 x0 x1 x2 x3 x4)), .val (.ref b13), .unset, .unset, .unset, .unset, .unset] [(.int (f0_j9 x0 x1 x2 x3 x4)), (.long (f0_j3 x0 x1 x2 x3 x4)), (.ref b18), (.ref b18)])) _
    refine st24.trans ?_
    show Steps p.tables e below (T24.setTop (mkF m 51 #[.val (.long x0), .second, .val (.int x1), .val (.long x2), .second, .val (.int x3), .val (.int x4), .val (.long (f0_j3 x0 x1 x2 x3 x4)), .second, .val (.int (f0_j9 x0 x1 x2 x3 x4)), .val (.ref b13), .unset, .unset, .unset, .unset, .unset] [(.ref b18)])) _
    refine XS.astore X24.here hx rfl (hb hby at_51) rfl rfl (l' := #[.val (.long x0), .second, .val (.int x1), .val (.long x2), .second, .val (.int x3), .val (.int x4), .val (.long (f0_j3 x0 x1 x2 x3 x4)), .second, .val (.int (f0_j9 x0 x1 x2 x3 x4)), .val (.ref b13), .val (.ref b18), .unset, .unset, .unset, .unset]) rfl ?_
    show Steps p.tables e below (T24.setTop (mkF m 53 #[.val (.long x0), .second, .val (.int x1), .val (.long x2), .second, .val (.int x3), .val (.int x4), .val (.long (f0_j3 x0 x1 x2 x3 x4)), .second, .val (.int (f0_j9 x0 x1 x2 x3 x4)), .val (.ref b13), .val (.ref b18), .unset, .unset, .unset, .unset] [])) _
    refine XS.aload X24.here hx rfl (hb hby at_53) rfl rfl ?_
    show Steps p.tables e below (T24.setTop (mkF m 55 #[.val (.long x0), .second, .val (.int x1), .val (.long x2), .second, .val (.int x3), .val (.int x4), .val (.long (f0_j3 x0 x1 x2 x3 x4)), .second, .val (.int (f0_j9 x0 x1 x2 x3 x4)), .val (.ref b13), .val (.ref b18), .unset, .unset, .unset, .unset] [(.ref b13)])) _
    refine XS.lload X24.here hx rfl (hb hby at_55) rfl ?_
    show Steps p.tables e below (T24.setTop (mkF m 57 #[.val (.long x0), .second, .val (.int x1), .val (.long x2), .second, .val (.int x3), .val (.int x4), .val (.long (f0_j3 x0 x1 x2 x3 x4)), .second, .val (.int (f0_j9 x0 x1 x2 x3 x4)), .val (.ref b13), .val (.ref b18), .unset, .unset, .unset, .unset] [(.long (f0_j3 x0 x1 x2 x3 x4)), (.ref b13)])) _
    refine XS.iload X24.here hx rfl (hb hby at_57) rfl ?_
    show Steps p.tables e below (T24.setTop (mkF m 59 #[.val (.long x0), .second, .val (.int x1), .val (.long x2), .second, .val (.int x3), .val (.int x4), .val (.long (f0_j3 x0 x1 x2 x3 x4)), .second, .val (.int (f0_j9 x0 x1 x2 x3 x4)), .val (.ref b13), .val (.ref b18), .unset, .unset, .unset, .unset] [(.int (f0_j9 x0 x1 x2 x3 x4)), (.long (f0_j3 x0 x1 x2 x3 x4)), (.ref b13)])) _
    refine st29.trans ?_
    show Steps p.tables e below (T29.setTop (mkF m 62 #[.val (.long x0), .second, .val (.int x1), .val (.long x2), .second, .val (.int x3), .val (.int x4), .val (.long (f0_j3 x0 x1 x2 x3 x4)), .second, .val (.int (f0_j9 x0 x1 x2 x3 x4)), .val (.ref b13), .val (.ref b18), .unset, .unset, .unset, .unset] [(.int (f4 (f0_j3 x0 x1 x2 x3 x4) (f0_j9 x0 x1 x2 x3 x4) x0 x1))])) _
    refine XS.istore X29.here hx rfl (hb hby at_62) rfl (l' := #[.val (.long x0), .second, .val (.int x1), .val (.long x2), .second, .val (.int x3), .val (.int x4), .val (.long (f0_j3 x0 x1 x2 x3 x4)), .second, .val (.int (f0_j9 x0 x1 x2 x3 x4)), .val (.ref b13), .val (.ref b18), .val (.int (f0_v30 x0 x1 x2 x3 x4)), .unset, .unset, .unset]) rfl ?_
    show Steps p.tables e below (T29.setTop (mkF m 64 #[.val (.long x0), .second, .val (.int x1), .val (.long x2), .second, .val (.int x3), .val (.int x4), .val (.long (f0_j3 x0 x1 x2 x3 x4)), .second, .val (.int (f0_j9 x0 x1 x2 x3 x4)), .val (.ref b13), .val (.ref b18), .val (.int (f0_v30 x0 x1 x2 x3 x4)), .unset, .unset, .unset] [])) _
    refine XS.aload X29.here hx rfl (hb hby at_64) rfl rfl ?_
    show Steps p.tables e below (T29.setTop (mkF m 66 #[.val (.long x0), .second, .val (.int x1), .val (.long x2), .second, .val (.int x3), .val (.int x4), .val (.long (f0_j3 x0 x1 x2 x3 x4)), .second, .val (.int (f0_j9 x0 x1 x2 x3 x4)), .val (.ref b13), .val (.ref b18), .val (.int (f0_v30 x0 x1 x2 x3 x4)), .unset, .unset, .unset] [(.ref b18)])) _
    refine XS.lloadN X29.here hx rfl (hb hby at_66) rfl ?_
    show Steps p.tables e below (T29.setTop (mkF m 67 #[.val (.long x0), .second, .val (.int x1), .val (.long x2), .second, .val (.int x3), .val (.int x4), .val (.long (f0_j3 x0 x1 x2 x3 x4)), .second, .val (.int (f0_j9 x0 x1 x2 x3 x4)), .val (.ref b13), .val (.ref b18), .val (.int (f0_v30 x0 x1 x2 x3 x4)), .unset, .unset, .unset] [(.long x0), (.ref b18)])) _
    refine XS.iloadN X29.here hx rfl (hb hby at_67) rfl ?_
    show Steps p.tables e below (T29.setTop (mkF m 68 #[.val (.long x0), .second, .val (.int x1), .val (.long x2), .second, .val (.int x3), .val (.int x4), .val (.long (f0_j3 x0 x1 x2 x3 x4)), .second, .val (.int (f0_j9 x0 x1 x2 x3 x4)), .val (.ref b13), .val (.ref b18), .val (.int (f0_v30 x0 x1 x2 x3 x4)), .unset, .unset, .unset] [(.int x1), (.long x0), (.ref b18)])) _
    refine st31.trans ?_
    show Steps p.tables e below (T31.setTop (mkF m 71 #[.val (.long x0), .second, .val (.int x1), .val (.long x2), .second, .val (.int x3), .val (.int x4), .val (.long (f0_j3 x0 x1 x2 x3 x4)), .second, .val (.int (f0_j9 x0 x1 x2 x3 x4)), .val (.ref b13), .val (.ref b18), .val (.int (f0_v30 x0 x1 x2 x3 x4)), .unset, .unset, .unset] [(.int (f4 x0 x1 (f0_j3 x0 x1 x2 x3 x4) (f0_j9 x0 x1 x2 x3 x4)))])) _
    refine XS.istore X31.here hx rfl (hb hby at_71) rfl (l' := #[.val (.long x0), .second, .val (.int x1), .val (.long x2), .second, .val (.int x3), .val (.int x4), .val (.long (f0_j3 x0 x1 x2 x3 x4)), .second, .val (.int (f0_j9 x0 x1 x2 x3 x4)), .val (.ref b13), .val (.ref b18), .val (.int (f0_v30 x0 x1 x2 x3 x4)), .val (.int (f0_v32 x0 x1 x2 x3 x4)), .unset, .unset]) rfl ?_
    show Steps p.tables e below (T31.setTop (mkF m 73 #[.val (.long x0), .second, .val (.int x1), .val (.long x2), .second, .val (.int x3), .val (.int x4), .val (.long (f0_j3 x0 x1 x2 x3 x4)), .second, .val (.int (f0_j9 x0 x1 x2 x3 x4)), .val (.ref b13), .val (.ref b18), .val (.int (f0_v30 x0 x1 x2 x3 x4)), .val (.int (f0_v32 x0 x1 x2 x3 x4)), .unset, .unset] [])) _
    refine XS.lload X31.here hx rfl (hb hby at_73) rfl ?_
    show Steps p.tables e below (T31.setTop (mkF m 75 #[.val (.long x0), .second, .val (.int x1), .val (.long x2), .second, .val (.int x3), .val (.int x4), .val (.long (f0_j3 x0 x1 x2 x3 x4)), .second, .val (.int (f0_j9 x0 x1 x2 x3 x4)), .val (.ref b13), .val (.ref b18), .val (.int (f0_v30 x0 x1 x2 x3 x4)), .val (.int (f0_v32 x0 x1 x2 x3 x4)), .unset, .unset] [(.long (f0_j3 x0 x1 x2 x3 x4))])) _
    refine XS.lloadN X31.here hx rfl (hb hby at_75) rfl ?_
    show Steps p.tables e below (T31.setTop (mkF m 76 #[.val (.long x0), .second, .val (.int x1), .val (.long x2), .second, .val (.int x3), .val (.int x4), .val (.long (f0_j3 x0 x1 x2 x3 x4)), .second, .val (.int (f0_j9 x0 x1 x2 x3 x4)), .val (.ref b13), .val (.ref b18), .val (.int (f0_v30 x0 x1 x2 x3 x4)), .val (.int (f0_v32 x0 x1 x2 x3 x4)), .unset, .unset] [(.long x0), (.long (f0_j3 x0 x1 x2 x3 x4))])) _
    refine XS.lcmp X31.here hx rfl (hb hby at_76) rfl ?_
    exact k
  obtain ⟨T48, L48, X48, N48, e48, pre48⟩ : ∃ (T' : State) (L' : List Loc), Stand p l e room_1 s m #[(.long x0), (.int x1), (.long x2), (.int x3), (.int x4)] below meth c T' L' 2 4 ∧ Fr n0 L' ∧ T'.heap = h24 ∧ ∀ t, Steps p.tables e below (T'.setTop (mkF m 112 #[.val (.long x0), .second, .val (.int x1), .val (.long x2), .second, .val (.int x3), .val (.int x4), .val (.long (f0_j3 x0 x1 x2 x3 x4)), .second, .val (.int (f0_j9 x0 x1 x2 x3 x4)), .val (.ref b13), .val (.ref b18), .val (.int (f0_v30 x0 x1 x2 x3 x4)), .val (.int (f0_v32 x0 x1 x2 x3 x4)), .val (.int (f0_j47 x0 x1 x2 x3 x4)), .unset] [])) t → Steps p.tables e below (s₁.setTop (entryFrame m #[(.long x0), (.int x1), (.long x2), (.int x3), (.int x4)] maxLocals)) t := by
    rcases Bool.eq_false_or_eq_true (ifCond.holds .ge (own_cmp (f0_j3 x0 x1 x2 x3 x4) x0)) with hc34 | hc34
    · have pre35 : ∀ t, Steps p.tables e below (T31.setTop (mkF m 90 #[.val (.long x0), .second, .val (.int x1), .val (.long x2), .second, .val (.int x3), .val (.int x4), .val (.long (f0_j3 x0 x1 x2 x3 x4)), .second, .val (.int (f0_j9 x0 x1 x2 x3 x4)), .val (.ref b13), .val (.ref b18), .val (.int (f0_v30 x0 x1 x2 x3 x4)), .val (.int (f0_v32 x0 x1 x2 x3 x4)), .unset, .unset] [(.int (own_cmp (f0_j3 x0 x1 x2 x3 x4) x0))])) t → Steps p.tables e below (s₁.setTop (entryFrame m #[(.long x0), (.int x1), (.long x2), (.int x3), (.int x4)] maxLocals)) t := by
        intro t k
        refine pre33 _ ?_
        show Steps p.tables e below (T31.setTop (mkF m 77 #[.val (.long x0), .second, .val (.int x1), .val (.long x2), .second, .val (.int x3), .val (.int x4), .val (.long (f0_j3 x0 x1 x2 x3 x4)), .second, .val (.int (f0_j9 x0 x1 x2 x3 x4)), .val (.ref b13), .val (.ref b18), .val (.int (f0_v30 x0 x1 x2 x3 x4)), .val (.int (f0_v32 x0 x1 x2 x3 x4)), .unset, .unset] [(.int (own_cmp (f0_j3 x0 x1 x2 x3 x4) x0))])) _
        refine XS.ifYes X31.here hx rfl (pc0 := 77) (pc' := 86) rfl (hb hby at_77) rfl hc34 (by decide) (by decide) ?_
        show Steps p.tables e below (T31.setTop (mkF m 86 #[.val (.long x0), .second, .val (.int x1), .val (.long x2), .second, .val (.int x3), .val (.int x4), .val (.long (f0_j3 x0 x1 x2 x3 x4)), .second, .val (.int (f0_j9 x0 x1 x2 x3 x4)), .val (.ref b13), .val (.ref b18), .val (.int (f0_v30 x0 x1 x2 x3 x4)), .val (.int (f0_v32 x0 x1 x2 x3 x4)), .unset, .unset] [])) _
        refine XS.lload X31.here hx rfl (hb hby at_86) rfl ?_
        show Steps p.tables e below (T31.setTop (mkF m 88 #[.val (.long x0), .second, .val (.int x1), .val (.long x2), .second, .val (.int x3), .val (.int x4), .val (.long (f0_j3 x0 x1 x2 x3 x4)), .second, .val (.int (f0_j9 x0 x1 x2 x3 x4)), .val (.ref b13), .val (.ref b18), .val (.int (f0_v30 x0 x1 x2 x3 x4)), .val (.int (f0_v32 x0 x1 x2 x3 x4)), .unset, .unset] [(.long (f0_j3 x0 x1 x2 x3 x4))])) _
        refine XS.lloadN X31.here hx rfl (hb hby at_88) rfl ?_
        show Steps p.tables e below (T31.setTop (mkF m 89 #[.val (.long x0), .second, .val (.int x1), .val (.long x2), .second, .val (.int x3), .val (.int x4), .val (.long (f0_j3 x0 x1 x2 x3 x4)), .second, .val (.int (f0_j9 x0 x1 x2 x3 x4)), .val (.ref b13), .val (.ref b18), .val (.int (f0_v30 x0 x1 x2 x3 x4)), .val (.int (f0_v32 x0 x1 x2 x3 x4)), .unset, .unset] [(.long x0), (.long (f0_j3 x0 x1 x2 x3 x4))])) _
        refine XS.lcmp X31.here hx rfl (hb hby at_89) rfl ?_
        exact k
      obtain ⟨T44, L44, X44, N44, e44, pre44⟩ : ∃ (T' : State) (L' : List Loc), Stand p l e room_1 s m #[(.long x0), (.int x1), (.long x2), (.int x3), (.int x4)] below meth c T' L' 2 4 ∧ Fr n0 L' ∧ T'.heap = h24 ∧ ∀ t, Steps p.tables e below (T'.setTop (mkF m 112 #[.val (.long x0), .second, .val (.int x1), .val (.long x2), .second, .val (.int x3), .val (.int x4), .val (.long (f0_j3 x0 x1 x2 x3 x4)), .second, .val (.int (f0_j9 x0 x1 x2 x3 x4)), .val (.ref b13), .val (.ref b18), .val (.int (f0_v30 x0 x1 x2 x3 x4)), .val (.int (f0_v32 x0 x1 x2 x3 x4)), .val (.int (f0_j43 x0 x1 x2 x3 x4)), .unset] [])) t → Steps p.tables e below (s₁.setTop (entryFrame m #[(.long x0), (.int x1), (.long x2), (.int x3), (.int x4)] maxLocals)) t := by
        rcases Bool.eq_false_or_eq_true (ifCond.holds .ne (own_cmp (f0_j3 x0 x1 x2 x3 x4) x0)) with hc36 | hc36
        · have pre45 : ∀ t, Steps p.tables e below (T31.setTop (mkF m 112 #[.val (.long x0), .second, .val (.int x1), .val (.long x2), .second, .val (.int x3), .val (.int x4), .val (.long (f0_j3 x0 x1 x2 x3 x4)), .second, .val (.int (f0_j9 x0 x1 x2 x3 x4)), .val (.ref b13), .val (.ref b18), .val (.int (f0_v30 x0 x1 x2 x3 x4)), .val (.int (f0_v32 x0 x1 x2 x3 x4)), .val (.int (1 : Int32)), .unset] [])) t → Steps p.tables e below (s₁.setTop (entryFrame m #[(.long x0), (.int x1), (.long x2), (.int x3), (.int x4)] maxLocals)) t := by
            intro t k
            refine pre35 _ ?_
            show Steps p.tables e below (T31.setTop (mkF m 90 #[.val (.long x0), .second, .val (.int x1), .val (.long x2), .second, .val (.int x3), .val (.int x4), .val (.long (f0_j3 x0 x1 x2 x3 x4)), .second, .val (.int (f0_j9 x0 x1 x2 x3 x4)), .val (.ref b13), .val (.ref b18), .val (.int (f0_v30 x0 x1 x2 x3 x4)), .val (.int (f0_v32 x0 x1 x2 x3 x4)), .unset, .unset] [(.int (own_cmp (f0_j3 x0 x1 x2 x3 x4) x0))])) _
            refine XS.ifYes X31.here hx rfl (pc0 := 90) (pc' := 109) rfl (hb hby at_90) rfl hc36 (by decide) (by decide) ?_
            show Steps p.tables e below (T31.setTop (mkF m 109 #[.val (.long x0), .second, .val (.int x1), .val (.long x2), .second, .val (.int x3), .val (.int x4), .val (.long (f0_j3 x0 x1 x2 x3 x4)), .second, .val (.int (f0_j9 x0 x1 x2 x3 x4)), .val (.ref b13), .val (.ref b18), .val (.int (f0_v30 x0 x1 x2 x3 x4)), .val (.int (f0_v32 x0 x1 x2 x3 x4)), .unset, .unset] [])) _
            refine XS.iconst X31.here hx rfl (hb hby at_109) ?_
            show Steps p.tables e below (T31.setTop (mkF m 110 #[.val (.long x0), .second, .val (.int x1), .val (.long x2), .second, .val (.int x3), .val (.int x4), .val (.long (f0_j3 x0 x1 x2 x3 x4)), .second, .val (.int (f0_j9 x0 x1 x2 x3 x4)), .val (.ref b13), .val (.ref b18), .val (.int (f0_v30 x0 x1 x2 x3 x4)), .val (.int (f0_v32 x0 x1 x2 x3 x4)), .unset, .unset] [(.int (1 : Int32))])) _
            refine XS.istore X31.here hx rfl (hb hby at_110) rfl (l' := #[.val (.long x0), .second, .val (.int x1), .val (.long x2), .second, .val (.int x3), .val (.int x4), .val (.long (f0_j3 x0 x1 x2 x3 x4)), .second, .val (.int (f0_j9 x0 x1 x2 x3 x4)), .val (.ref b13), .val (.ref b18), .val (.int (f0_v30 x0 x1 x2 x3 x4)), .val (.int (f0_v32 x0 x1 x2 x3 x4)), .val (.int (1 : Int32)), .unset]) rfl ?_
            exact k
          have qj0 : (f0_j43 x0 x1 x2 x3 x4) = (1 : Int32) := if_pos hc36
          refine ⟨T31, _, X31, N31, e31, fun t k => pre45 _ ?_⟩
          rw [qj0] at k
          exact k
        · have pre37 : ∀ t, Steps p.tables e below (T31.setTop (mkF m 96 #[.val (.long x0), .second, .val (.int x1), .val (.long x2), .second, .val (.int x3), .val (.int x4), .val (.long (f0_j3 x0 x1 x2 x3 x4)), .second, .val (.int (f0_j9 x0 x1 x2 x3 x4)), .val (.ref b13), .val (.ref b18), .val (.int (f0_v30 x0 x1 x2 x3 x4)), .val (.int (f0_v32 x0 x1 x2 x3 x4)), .unset, .unset] [(.int x1), (.int (f0_j9 x0 x1 x2 x3 x4))])) t → Steps p.tables e below (s₁.setTop (entryFrame m #[(.long x0), (.int x1), (.long x2), (.int x3), (.int x4)] maxLocals)) t := by
            intro t k
            refine pre35 _ ?_
            show Steps p.tables e below (T31.setTop (mkF m 90 #[.val (.long x0), .second, .val (.int x1), .val (.long x2), .second, .val (.int x3), .val (.int x4), .val (.long (f0_j3 x0 x1 x2 x3 x4)), .second, .val (.int (f0_j9 x0 x1 x2 x3 x4)), .val (.ref b13), .val (.ref b18), .val (.int (f0_v30 x0 x1 x2 x3 x4)), .val (.int (f0_v32 x0 x1 x2 x3 x4)), .unset, .unset] [(.int (own_cmp (f0_j3 x0 x1 x2 x3 x4) x0))])) _
            refine XS.ifNo X31.here hx rfl (hb hby at_90) rfl hc36 ?_
            show Steps p.tables e below (T31.setTop (mkF m 93 #[.val (.long x0), .second, .val (.int x1), .val (.long x2), .second, .val (.int x3), .val (.int x4), .val (.long (f0_j3 x0 x1 x2 x3 x4)), .second, .val (.int (f0_j9 x0 x1 x2 x3 x4)), .val (.ref b13), .val (.ref b18), .val (.int (f0_v30 x0 x1 x2 x3 x4)), .val (.int (f0_v32 x0 x1 x2 x3 x4)), .unset, .unset] [])) _
            refine XS.iload X31.here hx rfl (hb hby at_93) rfl ?_
            show Steps p.tables e below (T31.setTop (mkF m 95 #[.val (.long x0), .second, .val (.int x1), .val (.long x2), .second, .val (.int x3), .val (.int x4), .val (.long (f0_j3 x0 x1 x2 x3 x4)), .second, .val (.int (f0_j9 x0 x1 x2 x3 x4)), .val (.ref b13), .val (.ref b18), .val (.int (f0_v30 x0 x1 x2 x3 x4)), .val (.int (f0_v32 x0 x1 x2 x3 x4)), .unset, .unset] [(.int (f0_j9 x0 x1 x2 x3 x4))])) _
            refine XS.iloadN X31.here hx rfl (hb hby at_95) rfl ?_
            exact k
          obtain ⟨T40, L40, X40, N40, e40, pre40⟩ : ∃ (T' : State) (L' : List Loc), Stand p l e room_1 s m #[(.long x0), (.int x1), (.long x2), (.int x3), (.int x4)] below meth c T' L' 2 4 ∧ Fr n0 L' ∧ T'.heap = h24 ∧ ∀ t, Steps p.tables e below (T'.setTop (mkF m 104 #[.val (.long x0), .second, .val (.int x1), .val (.long x2), .second, .val (.int x3), .val (.int x4), .val (.long (f0_j3 x0 x1 x2 x3 x4)), .second, .val (.int (f0_j9 x0 x1 x2 x3 x4)), .val (.ref b13), .val (.ref b18), .val (.int (f0_v30 x0 x1 x2 x3 x4)), .val (.int (f0_v32 x0 x1 x2 x3 x4)), .unset, .unset] [(.int (f0_j39 x0 x1 x2 x3 x4))])) t → Steps p.tables e below (s₁.setTop (entryFrame m #[(.long x0), (.int x1), (.long x2), (.int x3), (.int x4)] maxLocals)) t := by
            rcases Bool.eq_false_or_eq_true (if_icmp.holds .ne (f0_j9 x0 x1 x2 x3 x4) x1) with hc38 | hc38
            · have pre41 : ∀ t, Steps p.tables e below (T31.setTop (mkF m 104 #[.val (.long x0), .second, .val (.int x1), .val (.long x2), .second, .val (.int x3), .val (.int x4), .val (.long (f0_j3 x0 x1 x2 x3 x4)), .second, .val (.int (f0_j9 x0 x1 x2 x3 x4)), .val (.ref b13), .val (.ref b18), .val (.int (f0_v30 x0 x1 x2 x3 x4)), .val (.int (f0_v32 x0 x1 x2 x3 x4)), .unset, .unset] [(.int (0 : Int32))])) t → Steps p.tables e below (s₁.setTop (entryFrame m #[(.long x0), (.int x1), (.long x2), (.int x3), (.int x4)] maxLocals)) t := by
                intro t k
                refine pre37 _ ?_
                show Steps p.tables e below (T31.setTop (mkF m 96 #[.val (.long x0), .second, .val (.int x1), .val (.long x2), .second, .val (.int x3), .val (.int x4), .val (.long (f0_j3 x0 x1 x2 x3 x4)), .second, .val (.int (f0_j9 x0 x1 x2 x3 x4)), .val (.ref b13), .val (.ref b18), .val (.int (f0_v30 x0 x1 x2 x3 x4)), .val (.int (f0_v32 x0 x1 x2 x3 x4)), .unset, .unset] [(.int x1), (.int (f0_j9 x0 x1 x2 x3 x4))])) _
                refine XS.icmpYes X31.here hx rfl (pc0 := 96) (pc' := 103) rfl (hb hby at_96) rfl hc38 (by decide) (by decide) ?_
                show Steps p.tables e below (T31.setTop (mkF m 103 #[.val (.long x0), .second, .val (.int x1), .val (.long x2), .second, .val (.int x3), .val (.int x4), .val (.long (f0_j3 x0 x1 x2 x3 x4)), .second, .val (.int (f0_j9 x0 x1 x2 x3 x4)), .val (.ref b13), .val (.ref b18), .val (.int (f0_v30 x0 x1 x2 x3 x4)), .val (.int (f0_v32 x0 x1 x2 x3 x4)), .unset, .unset] [])) _
                refine XS.iconst X31.here hx rfl (hb hby at_103) ?_
                exact k
              have qj0 : (f0_j39 x0 x1 x2 x3 x4) = (0 : Int32) := if_pos hc38
              refine ⟨T31, _, X31, N31, e31, fun t k => pre41 _ ?_⟩
              rw [qj0] at k
              exact k
            · have pre42 : ∀ t, Steps p.tables e below (T31.setTop (mkF m 104 #[.val (.long x0), .second, .val (.int x1), .val (.long x2), .second, .val (.int x3), .val (.int x4), .val (.long (f0_j3 x0 x1 x2 x3 x4)), .second, .val (.int (f0_j9 x0 x1 x2 x3 x4)), .val (.ref b13), .val (.ref b18), .val (.int (f0_v30 x0 x1 x2 x3 x4)), .val (.int (f0_v32 x0 x1 x2 x3 x4)), .unset, .unset] [(.int (1 : Int32))])) t → Steps p.tables e below (s₁.setTop (entryFrame m #[(.long x0), (.int x1), (.long x2), (.int x3), (.int x4)] maxLocals)) t := by
                intro t k
                refine pre37 _ ?_
                show Steps p.tables e below (T31.setTop (mkF m 96 #[.val (.long x0), .second, .val (.int x1), .val (.long x2), .second, .val (.int x3), .val (.int x4), .val (.long (f0_j3 x0 x1 x2 x3 x4)), .second, .val (.int (f0_j9 x0 x1 x2 x3 x4)), .val (.ref b13), .val (.ref b18), .val (.int (f0_v30 x0 x1 x2 x3 x4)), .val (.int (f0_v32 x0 x1 x2 x3 x4)), .unset, .unset] [(.int x1), (.int (f0_j9 x0 x1 x2 x3 x4))])) _
                refine XS.icmpNo X31.here hx rfl (hb hby at_96) rfl hc38 ?_
                show Steps p.tables e below (T31.setTop (mkF m 99 #[.val (.long x0), .second, .val (.int x1), .val (.long x2), .second, .val (.int x3), .val (.int x4), .val (.long (f0_j3 x0 x1 x2 x3 x4)), .second, .val (.int (f0_j9 x0 x1 x2 x3 x4)), .val (.ref b13), .val (.ref b18), .val (.int (f0_v30 x0 x1 x2 x3 x4)), .val (.int (f0_v32 x0 x1 x2 x3 x4)), .unset, .unset] [])) _
                refine XS.iconst X31.here hx rfl (hb hby at_99) ?_
                show Steps p.tables e below (T31.setTop (mkF m 100 #[.val (.long x0), .second, .val (.int x1), .val (.long x2), .second, .val (.int x3), .val (.int x4), .val (.long (f0_j3 x0 x1 x2 x3 x4)), .second, .val (.int (f0_j9 x0 x1 x2 x3 x4)), .val (.ref b13), .val (.ref b18), .val (.int (f0_v30 x0 x1 x2 x3 x4)), .val (.int (f0_v32 x0 x1 x2 x3 x4)), .unset, .unset] [(.int (1 : Int32))])) _
                refine XS.goto X31.here hx rfl (pc0 := 100) (pc' := 104) rfl (hb hby at_100) (by decide) (by decide) ?_
                exact k
              have qj0 : (f0_j39 x0 x1 x2 x3 x4) = (1 : Int32) := if_neg (own_nt hc38)
              refine ⟨T31, _, X31, N31, e31, fun t k => pre42 _ ?_⟩
              rw [qj0] at k
              exact k
          have pre46 : ∀ t, Steps p.tables e below (T40.setTop (mkF m 112 #[.val (.long x0), .second, .val (.int x1), .val (.long x2), .second, .val (.int x3), .val (.int x4), .val (.long (f0_j3 x0 x1 x2 x3 x4)), .second, .val (.int (f0_j9 x0 x1 x2 x3 x4)), .val (.ref b13), .val (.ref b18), .val (.int (f0_v30 x0 x1 x2 x3 x4)), .val (.int (f0_v32 x0 x1 x2 x3 x4)), .val (.int (f0_j39 x0 x1 x2 x3 x4)), .unset] [])) t → Steps p.tables e below (s₁.setTop (entryFrame m #[(.long x0), (.int x1), (.long x2), (.int x3), (.int x4)] maxLocals)) t := by
            intro t k
            refine pre40 _ ?_
            show Steps p.tables e below (T40.setTop (mkF m 104 #[.val (.long x0), .second, .val (.int x1), .val (.long x2), .second, .val (.int x3), .val (.int x4), .val (.long (f0_j3 x0 x1 x2 x3 x4)), .second, .val (.int (f0_j9 x0 x1 x2 x3 x4)), .val (.ref b13), .val (.ref b18), .val (.int (f0_v30 x0 x1 x2 x3 x4)), .val (.int (f0_v32 x0 x1 x2 x3 x4)), .unset, .unset] [(.int (f0_j39 x0 x1 x2 x3 x4))])) _
            refine XS.istore X40.here hx rfl (hb hby at_104) rfl (l' := #[.val (.long x0), .second, .val (.int x1), .val (.long x2), .second, .val (.int x3), .val (.int x4), .val (.long (f0_j3 x0 x1 x2 x3 x4)), .second, .val (.int (f0_j9 x0 x1 x2 x3 x4)), .val (.ref b13), .val (.ref b18), .val (.int (f0_v30 x0 x1 x2 x3 x4)), .val (.int (f0_v32 x0 x1 x2 x3 x4)), .val (.int (f0_j39 x0 x1 x2 x3 x4)), .unset]) rfl ?_
            show Steps p.tables e below (T40.setTop (mkF m 106 #[.val (.long x0), .second, .val (.int x1), .val (.long x2), .second, .val (.int x3), .val (.int x4), .val (.long (f0_j3 x0 x1 x2 x3 x4)), .second, .val (.int (f0_j9 x0 x1 x2 x3 x4)), .val (.ref b13), .val (.ref b18), .val (.int (f0_v30 x0 x1 x2 x3 x4)), .val (.int (f0_v32 x0 x1 x2 x3 x4)), .val (.int (f0_j39 x0 x1 x2 x3 x4)), .unset] [])) _
            refine XS.goto X40.here hx rfl (pc0 := 106) (pc' := 112) rfl (hb hby at_106) (by decide) (by decide) ?_
            exact k
          have qj0 : (f0_j43 x0 x1 x2 x3 x4) = (f0_j39 x0 x1 x2 x3 x4) := if_neg (own_nt hc36)
          refine ⟨T40, _, X40, N40, e40, fun t k => pre46 _ ?_⟩
          rw [qj0] at k
          exact k
      have qj0 : (f0_j47 x0 x1 x2 x3 x4) = (f0_j43 x0 x1 x2 x3 x4) := if_pos hc34
      refine ⟨T44, _, X44, N44, e44, fun t k => pre44 _ ?_⟩
      rw [qj0] at k
      exact k
    · have pre49 : ∀ t, Steps p.tables e below (T31.setTop (mkF m 112 #[.val (.long x0), .second, .val (.int x1), .val (.long x2), .second, .val (.int x3), .val (.int x4), .val (.long (f0_j3 x0 x1 x2 x3 x4)), .second, .val (.int (f0_j9 x0 x1 x2 x3 x4)), .val (.ref b13), .val (.ref b18), .val (.int (f0_v30 x0 x1 x2 x3 x4)), .val (.int (f0_v32 x0 x1 x2 x3 x4)), .val (.int (0 : Int32)), .unset] [])) t → Steps p.tables e below (s₁.setTop (entryFrame m #[(.long x0), (.int x1), (.long x2), (.int x3), (.int x4)] maxLocals)) t := by
        intro t k
        refine pre33 _ ?_
        show Steps p.tables e below (T31.setTop (mkF m 77 #[.val (.long x0), .second, .val (.int x1), .val (.long x2), .second, .val (.int x3), .val (.int x4), .val (.long (f0_j3 x0 x1 x2 x3 x4)), .second, .val (.int (f0_j9 x0 x1 x2 x3 x4)), .val (.ref b13), .val (.ref b18), .val (.int (f0_v30 x0 x1 x2 x3 x4)), .val (.int (f0_v32 x0 x1 x2 x3 x4)), .unset, .unset] [(.int (own_cmp (f0_j3 x0 x1 x2 x3 x4) x0))])) _
        refine XS.ifNo X31.here hx rfl (hb hby at_77) rfl hc34 ?_
        show Steps p.tables e below (T31.setTop (mkF m 80 #[.val (.long x0), .second, .val (.int x1), .val (.long x2), .second, .val (.int x3), .val (.int x4), .val (.long (f0_j3 x0 x1 x2 x3 x4)), .second, .val (.int (f0_j9 x0 x1 x2 x3 x4)), .val (.ref b13), .val (.ref b18), .val (.int (f0_v30 x0 x1 x2 x3 x4)), .val (.int (f0_v32 x0 x1 x2 x3 x4)), .unset, .unset] [])) _
        refine XS.iconst X31.here hx rfl (hb hby at_80) ?_
        show Steps p.tables e below (T31.setTop (mkF m 81 #[.val (.long x0), .second, .val (.int x1), .val (.long x2), .second, .val (.int x3), .val (.int x4), .val (.long (f0_j3 x0 x1 x2 x3 x4)), .second, .val (.int (f0_j9 x0 x1 x2 x3 x4)), .val (.ref b13), .val (.ref b18), .val (.int (f0_v30 x0 x1 x2 x3 x4)), .val (.int (f0_v32 x0 x1 x2 x3 x4)), .unset, .unset] [(.int (0 : Int32))])) _
        refine XS.istore X31.here hx rfl (hb hby at_81) rfl (l' := #[.val (.long x0), .second, .val (.int x1), .val (.long x2), .second, .val (.int x3), .val (.int x4), .val (.long (f0_j3 x0 x1 x2 x3 x4)), .second, .val (.int (f0_j9 x0 x1 x2 x3 x4)), .val (.ref b13), .val (.ref b18), .val (.int (f0_v30 x0 x1 x2 x3 x4)), .val (.int (f0_v32 x0 x1 x2 x3 x4)), .val (.int (0 : Int32)), .unset]) rfl ?_
        show Steps p.tables e below (T31.setTop (mkF m 83 #[.val (.long x0), .second, .val (.int x1), .val (.long x2), .second, .val (.int x3), .val (.int x4), .val (.long (f0_j3 x0 x1 x2 x3 x4)), .second, .val (.int (f0_j9 x0 x1 x2 x3 x4)), .val (.ref b13), .val (.ref b18), .val (.int (f0_v30 x0 x1 x2 x3 x4)), .val (.int (f0_v32 x0 x1 x2 x3 x4)), .val (.int (0 : Int32)), .unset] [])) _
        refine XS.goto X31.here hx rfl (pc0 := 83) (pc' := 112) rfl (hb hby at_83) (by decide) (by decide) ?_
        exact k
      have qj0 : (f0_j47 x0 x1 x2 x3 x4) = (0 : Int32) := if_neg (own_nt hc34)
      refine ⟨T31, _, X31, N31, e31, fun t k => pre49 _ ?_⟩
      rw [qj0] at k
      exact k
  have pre50 : ∀ t, Steps p.tables e below (T48.setTop (mkF m 116 #[.val (.long x0), .second, .val (.int x1), .val (.long x2), .second, .val (.int x3), .val (.int x4), .val (.long (f0_j3 x0 x1 x2 x3 x4)), .second, .val (.int (f0_j9 x0 x1 x2 x3 x4)), .val (.ref b13), .val (.ref b18), .val (.int (f0_v30 x0 x1 x2 x3 x4)), .val (.int (f0_v32 x0 x1 x2 x3 x4)), .val (.int (f0_j47 x0 x1 x2 x3 x4)), .unset] [(.int (own_cmp (f0_j3 x0 x1 x2 x3 x4) x0))])) t → Steps p.tables e below (s₁.setTop (entryFrame m #[(.long x0), (.int x1), (.long x2), (.int x3), (.int x4)] maxLocals)) t := by
    intro t k
    refine pre48 _ ?_
    show Steps p.tables e below (T48.setTop (mkF m 112 #[.val (.long x0), .second, .val (.int x1), .val (.long x2), .second, .val (.int x3), .val (.int x4), .val (.long (f0_j3 x0 x1 x2 x3 x4)), .second, .val (.int (f0_j9 x0 x1 x2 x3 x4)), .val (.ref b13), .val (.ref b18), .val (.int (f0_v30 x0 x1 x2 x3 x4)), .val (.int (f0_v32 x0 x1 x2 x3 x4)), .val (.int (f0_j47 x0 x1 x2 x3 x4)), .unset] [])) _
    refine XS.lload X48.here hx rfl (hb hby at_112) rfl ?_
    show Steps p.tables e below (T48.setTop (mkF m 114 #[.val (.long x0), .second, .val (.int x1), .val (.long x2), .second, .val (.int x3), .val (.int x4), .val (.long (f0_j3 x0 x1 x2 x3 x4)), .second, .val (.int (f0_j9 x0 x1 x2 x3 x4)), .val (.ref b13), .val (.ref b18), .val (.int (f0_v30 x0 x1 x2 x3 x4)), .val (.int (f0_v32 x0 x1 x2 x3 x4)), .val (.int (f0_j47 x0 x1 x2 x3 x4)), .unset] [(.long (f0_j3 x0 x1 x2 x3 x4))])) _
    refine XS.lloadN X48.here hx rfl (hb hby at_114) rfl ?_
    show Steps p.tables e below (T48.setTop (mkF m 115 #[.val (.long x0), .second, .val (.int x1), .val (.long x2), .second, .val (.int x3), .val (.int x4), .val (.long (f0_j3 x0 x1 x2 x3 x4)), .second, .val (.int (f0_j9 x0 x1 x2 x3 x4)), .val (.ref b13), .val (.ref b18), .val (.int (f0_v30 x0 x1 x2 x3 x4)), .val (.int (f0_v32 x0 x1 x2 x3 x4)), .val (.int (f0_j47 x0 x1 x2 x3 x4)), .unset] [(.long x0), (.long (f0_j3 x0 x1 x2 x3 x4))])) _
    refine XS.lcmp X48.here hx rfl (hb hby at_115) rfl ?_
    exact k
  obtain ⟨T65, L65, X65, N65, e65, pre65⟩ : ∃ (T' : State) (L' : List Loc), Stand p l e room_1 s m #[(.long x0), (.int x1), (.long x2), (.int x3), (.int x4)] below meth c T' L' 2 4 ∧ Fr n0 L' ∧ T'.heap = h24 ∧ ∀ t, Steps p.tables e below (T'.setTop (mkF m 150 #[.val (.long x0), .second, .val (.int x1), .val (.long x2), .second, .val (.int x3), .val (.int x4), .val (.long (f0_j3 x0 x1 x2 x3 x4)), .second, .val (.int (f0_j9 x0 x1 x2 x3 x4)), .val (.ref b13), .val (.ref b18), .val (.int (f0_v30 x0 x1 x2 x3 x4)), .val (.int (f0_v32 x0 x1 x2 x3 x4)), .val (.int (f0_j47 x0 x1 x2 x3 x4)), .val (.int (f0_j64 x0 x1 x2 x3 x4))] [])) t → Steps p.tables e below (s₁.setTop (entryFrame m #[(.long x0), (.int x1), (.long x2), (.int x3), (.int x4)] maxLocals)) t := by
    rcases Bool.eq_false_or_eq_true (ifCond.holds .ne (own_cmp (f0_j3 x0 x1 x2 x3 x4) x0)) with hc51 | hc51
    · have pre52 : ∀ t, Steps p.tables e below (T48.setTop (mkF m 140 #[.val (.long x0), .second, .val (.int x1), .val (.long x2), .second, .val (.int x3), .val (.int x4), .val (.long (f0_j3 x0 x1 x2 x3 x4)), .second, .val (.int (f0_j9 x0 x1 x2 x3 x4)), .val (.ref b13), .val (.ref b18), .val (.int (f0_v30 x0 x1 x2 x3 x4)), .val (.int (f0_v32 x0 x1 x2 x3 x4)), .val (.int (f0_j47 x0 x1 x2 x3 x4)), .unset] [(.int (f0_v30 x0 x1 x2 x3 x4)), (.int (f0_v32 x0 x1 x2 x3 x4))])) t → Steps p.tables e below (s₁.setTop (entryFrame m #[(.long x0), (.int x1), (.long x2), (.int x3), (.int x4)] maxLocals)) t := by
        intro t k
        refine pre50 _ ?_
        show Steps p.tables e below (T48.setTop (mkF m 116 #[.val (.long x0), .second, .val (.int x1), .val (.long x2), .second, .val (.int x3), .val (.int x4), .val (.long (f0_j3 x0 x1 x2 x3 x4)), .second, .val (.int (f0_j9 x0 x1 x2 x3 x4)), .val (.ref b13), .val (.ref b18), .val (.int (f0_v30 x0 x1 x2 x3 x4)), .val (.int (f0_v32 x0 x1 x2 x3 x4)), .val (.int (f0_j47 x0 x1 x2 x3 x4)), .unset] [(.int (own_cmp (f0_j3 x0 x1 x2 x3 x4) x0))])) _
        refine XS.ifYes X48.here hx rfl (pc0 := 116) (pc' := 136) rfl (hb hby at_116) rfl hc51 (by decide) (by decide) ?_
        show Steps p.tables e below (T48.setTop (mkF m 136 #[.val (.long x0), .second, .val (.int x1), .val (.long x2), .second, .val (.int x3), .val (.int x4), .val (.long (f0_j3 x0 x1 x2 x3 x4)), .second, .val (.int (f0_j9 x0 x1 x2 x3 x4)), .val (.ref b13), .val (.ref b18), .val (.int (f0_v30 x0 x1 x2 x3 x4)), .val (.int (f0_v32 x0 x1 x2 x3 x4)), .val (.int (f0_j47 x0 x1 x2 x3 x4)), .unset] [])) _
        refine XS.iload X48.here hx rfl (hb hby at_136) rfl ?_
        show Steps p.tables e below (T48.setTop (mkF m 138 #[.val (.long x0), .second, .val (.int x1), .val (.long x2), .second, .val (.int x3), .val (.int x4), .val (.long (f0_j3 x0 x1 x2 x3 x4)), .second, .val (.int (f0_j9 x0 x1 x2 x3 x4)), .val (.ref b13), .val (.ref b18), .val (.int (f0_v30 x0 x1 x2 x3 x4)), .val (.int (f0_v32 x0 x1 x2 x3 x4)), .val (.int (f0_j47 x0 x1 x2 x3 x4)), .unset] [(.int (f0_v32 x0 x1 x2 x3 x4))])) _
        refine XS.iload X48.here hx rfl (hb hby at_138) rfl ?_
        exact k
      obtain ⟨T55, L55, X55, N55, e55, pre55⟩ : ∃ (T' : State) (L' : List Loc), Stand p l e room_1 s m #[(.long x0), (.int x1), (.long x2), (.int x3), (.int x4)] below meth c T' L' 2 4 ∧ Fr n0 L' ∧ T'.heap = h24 ∧ ∀ t, Steps p.tables e below (T'.setTop (mkF m 148 #[.val (.long x0), .second, .val (.int x1), .val (.long x2), .second, .val (.int x3), .val (.int x4), .val (.long (f0_j3 x0 x1 x2 x3 x4)), .second, .val (.int (f0_j9 x0 x1 x2 x3 x4)), .val (.ref b13), .val (.ref b18), .val (.int (f0_v30 x0 x1 x2 x3 x4)), .val (.int (f0_v32 x0 x1 x2 x3 x4)), .val (.int (f0_j47 x0 x1 x2 x3 x4)), .unset] [(.int (f0_j54 x0 x1 x2 x3 x4))])) t → Steps p.tables e below (s₁.setTop (entryFrame m #[(.long x0), (.int x1), (.long x2), (.int x3), (.int x4)] maxLocals)) t := by
        rcases Bool.eq_false_or_eq_true (if_icmp.holds .eq (f0_v32 x0 x1 x2 x3 x4) (f0_v30 x0 x1 x2 x3 x4)) with hc53 | hc53
        · have pre56 : ∀ t, Steps p.tables e below (T48.setTop (mkF m 148 #[.val (.long x0), .second, .val (.int x1), .val (.long x2), .second, .val (.int x3), .val (.int x4), .val (.long (f0_j3 x0 x1 x2 x3 x4)), .second, .val (.int (f0_j9 x0 x1 x2 x3 x4)), .val (.ref b13), .val (.ref b18), .val (.int (f0_v30 x0 x1 x2 x3 x4)), .val (.int (f0_v32 x0 x1 x2 x3 x4)), .val (.int (f0_j47 x0 x1 x2 x3 x4)), .unset] [(.int (0 : Int32))])) t → Steps p.tables e below (s₁.setTop (entryFrame m #[(.long x0), (.int x1), (.long x2), (.int x3), (.int x4)] maxLocals)) t := by
            intro t k
            refine pre52 _ ?_
            show Steps p.tables e below (T48.setTop (mkF m 140 #[.val (.long x0), .second, .val (.int x1), .val (.long x2), .second, .val (.int x3), .val (.int x4), .val (.long (f0_j3 x0 x1 x2 x3 x4)), .second, .val (.int (f0_j9 x0 x1 x2 x3 x4)), .val (.ref b13), .val (.ref b18), .val (.int (f0_v30 x0 x1 x2 x3 x4)), .val (.int (f0_v32 x0 x1 x2 x3 x4)), .val (.int (f0_j47 x0 x1 x2 x3 x4)), .unset] [(.int (f0_v30 x0 x1 x2 x3 x4)), (.int (f0_v32 x0 x1 x2 x3 x4))])) _
            refine XS.icmpYes X48.here hx rfl (pc0 := 140) (pc' := 147) rfl (hb hby at_140) rfl hc53 (by decide) (by decide) ?_
            show Steps p.tables e below (T48.setTop (mkF m 147 #[.val (.long x0), .second, .val (.int x1), .val (.long x2), .second, .val (.int x3), .val (.int x4), .val (.long (f0_j3 x0 x1 x2 x3 x4)), .second, .val (.int (f0_j9 x0 x1 x2 x3 x4)), .val (.ref b13), .val (.ref b18), .val (.int (f0_v30 x0 x1 x2 x3 x4)), .val (.int (f0_v32 x0 x1 x2 x3 x4)), .val (.int (f0_j47 x0 x1 x2 x3 x4)), .unset] [])) _
            refine XS.iconst X48.here hx rfl (hb hby at_147) ?_
            exact k
          have qj0 : (f0_j54 x0 x1 x2 x3 x4) = (0 : Int32) := if_pos hc53
          refine ⟨T48, _, X48, N48, e48, fun t k => pre56 _ ?_⟩
          rw [qj0] at k
          exact k
        · have pre57 : ∀ t, Steps p.tables e below (T48.setTop (mkF m 148 #[.val (.long x0), .second, .val (.int x1), .val (.long x2), .second, .val (.int x3), .val (.int x4), .val (.long (f0_j3 x0 x1 x2 x3 x4)), .second, .val (.int (f0_j9 x0 x1 x2 x3 x4)), .val (.ref b13), .val (.ref b18), .val (.int (f0_v30 x0 x1 x2 x3 x4)), .val (.int (f0_v32 x0 x1 x2 x3 x4)), .val (.int (f0_j47 x0 x1 x2 x3 x4)), .unset] [(.int (1 : Int32))])) t → Steps p.tables e below (s₁.setTop (entryFrame m #[(.long x0), (.int x1), (.long x2), (.int x3), (.int x4)] maxLocals)) t := by
            intro t k
            refine pre52 _ ?_
            show Steps p.tables e below (T48.setTop (mkF m 140 #[.val (.long x0), .second, .val (.int x1), .val (.long x2), .second, .val (.int x3), .val (.int x4), .val (.long (f0_j3 x0 x1 x2 x3 x4)), .second, .val (.int (f0_j9 x0 x1 x2 x3 x4)), .val (.ref b13), .val (.ref b18), .val (.int (f0_v30 x0 x1 x2 x3 x4)), .val (.int (f0_v32 x0 x1 x2 x3 x4)), .val (.int (f0_j47 x0 x1 x2 x3 x4)), .unset] [(.int (f0_v30 x0 x1 x2 x3 x4)), (.int (f0_v32 x0 x1 x2 x3 x4))])) _
            refine XS.icmpNo X48.here hx rfl (hb hby at_140) rfl hc53 ?_
            show Steps p.tables e below (T48.setTop (mkF m 143 #[.val (.long x0), .second, .val (.int x1), .val (.long x2), .second, .val (.int x3), .val (.int x4), .val (.long (f0_j3 x0 x1 x2 x3 x4)), .second, .val (.int (f0_j9 x0 x1 x2 x3 x4)), .val (.ref b13), .val (.ref b18), .val (.int (f0_v30 x0 x1 x2 x3 x4)), .val (.int (f0_v32 x0 x1 x2 x3 x4)), .val (.int (f0_j47 x0 x1 x2 x3 x4)), .unset] [])) _
            refine XS.iconst X48.here hx rfl (hb hby at_143) ?_
            show Steps p.tables e below (T48.setTop (mkF m 144 #[.val (.long x0), .second, .val (.int x1), .val (.long x2), .second, .val (.int x3), .val (.int x4), .val (.long (f0_j3 x0 x1 x2 x3 x4)), .second, .val (.int (f0_j9 x0 x1 x2 x3 x4)), .val (.ref b13), .val (.ref b18), .val (.int (f0_v30 x0 x1 x2 x3 x4)), .val (.int (f0_v32 x0 x1 x2 x3 x4)), .val (.int (f0_j47 x0 x1 x2 x3 x4)), .unset] [(.int (1 : Int32))])) _
            refine XS.goto X48.here hx rfl (pc0 := 144) (pc' := 148) rfl (hb hby at_144) (by decide) (by decide) ?_
            exact k
          have qj0 : (f0_j54 x0 x1 x2 x3 x4) = (1 : Int32) := if_neg (own_nt hc53)
          refine ⟨T48, _, X48, N48, e48, fun t k => pre57 _ ?_⟩
          rw [qj0] at k
          exact k
      have pre66 : ∀ t, Steps p.tables e below (T55.setTop (mkF m 150 #[.val (.long x0), .second, .val (.int x1), .val (.long x2), .second, .val (.int x3), .val (.int x4), .val (.long (f0_j3 x0 x1 x2 x3 x4)), .second, .val (.int (f0_j9 x0 x1 x2 x3 x4)), .val (.ref b13), .val (.ref b18), .val (.int (f0_v30 x0 x1 x2 x3 x4)), .val (.int (f0_v32 x0 x1 x2 x3 x4)), .val (.int (f0_j47 x0 x1 x2 x3 x4)), .val (.int (f0_j54 x0 x1 x2 x3 x4))] [])) t → Steps p.tables e below (s₁.setTop (entryFrame m #[(.long x0), (.int x1), (.long x2), (.int x3), (.int x4)] maxLocals)) t := by
        intro t k
        refine pre55 _ ?_
        show Steps p.tables e below (T55.setTop (mkF m 148 #[.val (.long x0), .second, .val (.int x1), .val (.long x2), .second, .val (.int x3), .val (.int x4), .val (.long (f0_j3 x0 x1 x2 x3 x4)), .second, .val (.int (f0_j9 x0 x1 x2 x3 x4)), .val (.ref b13), .val (.ref b18), .val (.int (f0_v30 x0 x1 x2 x3 x4)), .val (.int (f0_v32 x0 x1 x2 x3 x4)), .val (.int (f0_j47 x0 x1 x2 x3 x4)), .unset] [(.int (f0_j54 x0 x1 x2 x3 x4))])) _
        refine XS.istore X55.here hx rfl (hb hby at_148) rfl (l' := #[.val (.long x0), .second, .val (.int x1), .val (.long x2), .second, .val (.int x3), .val (.int x4), .val (.long (f0_j3 x0 x1 x2 x3 x4)), .second, .val (.int (f0_j9 x0 x1 x2 x3 x4)), .val (.ref b13), .val (.ref b18), .val (.int (f0_v30 x0 x1 x2 x3 x4)), .val (.int (f0_v32 x0 x1 x2 x3 x4)), .val (.int (f0_j47 x0 x1 x2 x3 x4)), .val (.int (f0_j54 x0 x1 x2 x3 x4))]) rfl ?_
        exact k
      have qj0 : (f0_j64 x0 x1 x2 x3 x4) = (f0_j54 x0 x1 x2 x3 x4) := if_pos hc51
      refine ⟨T55, _, X55, N55, e55, fun t k => pre66 _ ?_⟩
      rw [qj0] at k
      exact k
    · have pre58 : ∀ t, Steps p.tables e below (T48.setTop (mkF m 123 #[.val (.long x0), .second, .val (.int x1), .val (.long x2), .second, .val (.int x3), .val (.int x4), .val (.long (f0_j3 x0 x1 x2 x3 x4)), .second, .val (.int (f0_j9 x0 x1 x2 x3 x4)), .val (.ref b13), .val (.ref b18), .val (.int (f0_v30 x0 x1 x2 x3 x4)), .val (.int (f0_v32 x0 x1 x2 x3 x4)), .val (.int (f0_j47 x0 x1 x2 x3 x4)), .unset] [(.int (f0_v30 x0 x1 x2 x3 x4)), (.int (f0_v32 x0 x1 x2 x3 x4))])) t → Steps p.tables e below (s₁.setTop (entryFrame m #[(.long x0), (.int x1), (.long x2), (.int x3), (.int x4)] maxLocals)) t := by
        intro t k
        refine pre50 _ ?_
        show Steps p.tables e below (T48.setTop (mkF m 116 #[.val (.long x0), .second, .val (.int x1), .val (.long x2), .second, .val (.int x3), .val (.int x4), .val (.long (f0_j3 x0 x1 x2 x3 x4)), .second, .val (.int (f0_j9 x0 x1 x2 x3 x4)), .val (.ref b13), .val (.ref b18), .val (.int (f0_v30 x0 x1 x2 x3 x4)), .val (.int (f0_v32 x0 x1 x2 x3 x4)), .val (.int (f0_j47 x0 x1 x2 x3 x4)), .unset] [(.int (own_cmp (f0_j3 x0 x1 x2 x3 x4) x0))])) _
        refine XS.ifNo X48.here hx rfl (hb hby at_116) rfl hc51 ?_
        show Steps p.tables e below (T48.setTop (mkF m 119 #[.val (.long x0), .second, .val (.int x1), .val (.long x2), .second, .val (.int x3), .val (.int x4), .val (.long (f0_j3 x0 x1 x2 x3 x4)), .second, .val (.int (f0_j9 x0 x1 x2 x3 x4)), .val (.ref b13), .val (.ref b18), .val (.int (f0_v30 x0 x1 x2 x3 x4)), .val (.int (f0_v32 x0 x1 x2 x3 x4)), .val (.int (f0_j47 x0 x1 x2 x3 x4)), .unset] [])) _
        refine XS.iload X48.here hx rfl (hb hby at_119) rfl ?_
        show Steps p.tables e below (T48.setTop (mkF m 121 #[.val (.long x0), .second, .val (.int x1), .val (.long x2), .second, .val (.int x3), .val (.int x4), .val (.long (f0_j3 x0 x1 x2 x3 x4)), .second, .val (.int (f0_j9 x0 x1 x2 x3 x4)), .val (.ref b13), .val (.ref b18), .val (.int (f0_v30 x0 x1 x2 x3 x4)), .val (.int (f0_v32 x0 x1 x2 x3 x4)), .val (.int (f0_j47 x0 x1 x2 x3 x4)), .unset] [(.int (f0_v32 x0 x1 x2 x3 x4))])) _
        refine XS.iload X48.here hx rfl (hb hby at_121) rfl ?_
        exact k
      obtain ⟨T61, L61, X61, N61, e61, pre61⟩ : ∃ (T' : State) (L' : List Loc), Stand p l e room_1 s m #[(.long x0), (.int x1), (.long x2), (.int x3), (.int x4)] below meth c T' L' 2 4 ∧ Fr n0 L' ∧ T'.heap = h24 ∧ ∀ t, Steps p.tables e below (T'.setTop (mkF m 131 #[.val (.long x0), .second, .val (.int x1), .val (.long x2), .second, .val (.int x3), .val (.int x4), .val (.long (f0_j3 x0 x1 x2 x3 x4)), .second, .val (.int (f0_j9 x0 x1 x2 x3 x4)), .val (.ref b13), .val (.ref b18), .val (.int (f0_v30 x0 x1 x2 x3 x4)), .val (.int (f0_v32 x0 x1 x2 x3 x4)), .val (.int (f0_j47 x0 x1 x2 x3 x4)), .unset] [(.int (f0_j60 x0 x1 x2 x3 x4))])) t → Steps p.tables e below (s₁.setTop (entryFrame m #[(.long x0), (.int x1), (.long x2), (.int x3), (.int x4)] maxLocals)) t := by
        rcases Bool.eq_false_or_eq_true (if_icmp.holds .ne (f0_v32 x0 x1 x2 x3 x4) (f0_v30 x0 x1 x2 x3 x4)) with hc59 | hc59
        · have pre62 : ∀ t, Steps p.tables e below (T48.setTop (mkF m 131 #[.val (.long x0), .second, .val (.int x1), .val (.long x2), .second, .val (.int x3), .val (.int x4), .val (.long (f0_j3 x0 x1 x2 x3 x4)), .second, .val (.int (f0_j9 x0 x1 x2 x3 x4)), .val (.ref b13), .val (.ref b18), .val (.int (f0_v30 x0 x1 x2 x3 x4)), .val (.int (f0_v32 x0 x1 x2 x3 x4)), .val (.int (f0_j47 x0 x1 x2 x3 x4)), .unset] [(.int (0 : Int32))])) t → Steps p.tables e below (s₁.setTop (entryFrame m #[(.long x0), (.int x1), (.long x2), (.int x3), (.int x4)] maxLocals)) t := by
            intro t k
            refine pre58 _ ?_
            show Steps p.tables e below (T48.setTop (mkF m 123 #[.val (.long x0), .second, .val (.int x1), .val (.long x2), .second, .val (.int x3), .val (.int x4), .val (.long (f0_j3 x0 x1 x2 x3 x4)), .second, .val (.int (f0_j9 x0 x1 x2 x3 x4)), .val (.ref b13), .val (.ref b18), .val (.int (f0_v30 x0 x1 x2 x3 x4)), .val (.int (f0_v32 x0 x1 x2 x3 x4)), .val (.int (f0_j47 x0 x1 x2 x3 x4)), .unset] [(.int (f0_v30 x0 x1 x2 x3 x4)), (.int (f0_v32 x0 x1 x2 x3 x4))])) _
            refine XS.icmpYes X48.here hx rfl (pc0 := 123) (pc' := 130) rfl (hb hby at_123) rfl hc59 (by decide) (by decide) ?_
            show Steps p.tables e below (T48.setTop (mkF m 130 #[.val (.long x0), .second, .val (.int x1), .val (.long x2), .second, .val (.int x3), .val (.int x4), .val (.long (f0_j3 x0 x1 x2 x3 x4)), .second, .val (.int (f0_j9 x0 x1 x2 x3 x4)), .val (.ref b13), .val (.ref b18), .val (.int (f0_v30 x0 x1 x2 x3 x4)), .val (.int (f0_v32 x0 x1 x2 x3 x4)), .val (.int (f0_j47 x0 x1 x2 x3 x4)), .unset] [])) _
            refine XS.iconst X48.here hx rfl (hb hby at_130) ?_
            exact k
          have qj0 : (f0_j60 x0 x1 x2 x3 x4) = (0 : Int32) := if_pos hc59
          refine ⟨T48, _, X48, N48, e48, fun t k => pre62 _ ?_⟩
          rw [qj0] at k
          exact k
        · have pre63 : ∀ t, Steps p.tables e below (T48.setTop (mkF m 131 #[.val (.long x0), .second, .val (.int x1), .val (.long x2), .second, .val (.int x3), .val (.int x4), .val (.long (f0_j3 x0 x1 x2 x3 x4)), .second, .val (.int (f0_j9 x0 x1 x2 x3 x4)), .val (.ref b13), .val (.ref b18), .val (.int (f0_v30 x0 x1 x2 x3 x4)), .val (.int (f0_v32 x0 x1 x2 x3 x4)), .val (.int (f0_j47 x0 x1 x2 x3 x4)), .unset] [(.int (1 : Int32))])) t → Steps p.tables e below (s₁.setTop (entryFrame m #[(.long x0), (.int x1), (.long x2), (.int x3), (.int x4)] maxLocals)) t := by
            intro t k
            refine pre58 _ ?_
            show Steps p.tables e below (T48.setTop (mkF m 123 #[.val (.long x0), .second, .val (.int x1), .val (.long x2), .second, .val (.int x3), .val (.int x4), .val (.long (f0_j3 x0 x1 x2 x3 x4)), .second, .val (.int (f0_j9 x0 x1 x2 x3 x4)), .val (.ref b13), .val (.ref b18), .val (.int (f0_v30 x0 x1 x2 x3 x4)), .val (.int (f0_v32 x0 x1 x2 x3 x4)), .val (.int (f0_j47 x0 x1 x2 x3 x4)), .unset] [(.int (f0_v30 x0 x1 x2 x3 x4)), (.int (f0_v32 x0 x1 x2 x3 x4))])) _
            refine XS.icmpNo X48.here hx rfl (hb hby at_123) rfl hc59 ?_
            show Steps p.tables e below (T48.setTop (mkF m 126 #[.val (.long x0), .second, .val (.int x1), .val (.long x2), .second, .val (.int x3), .val (.int x4), .val (.long (f0_j3 x0 x1 x2 x3 x4)), .second, .val (.int (f0_j9 x0 x1 x2 x3 x4)), .val (.ref b13), .val (.ref b18), .val (.int (f0_v30 x0 x1 x2 x3 x4)), .val (.int (f0_v32 x0 x1 x2 x3 x4)), .val (.int (f0_j47 x0 x1 x2 x3 x4)), .unset] [])) _
            refine XS.iconst X48.here hx rfl (hb hby at_126) ?_
            show Steps p.tables e below (T48.setTop (mkF m 127 #[.val (.long x0), .second, .val (.int x1), .val (.long x2), .second, .val (.int x3), .val (.int x4), .val (.long (f0_j3 x0 x1 x2 x3 x4)), .second, .val (.int (f0_j9 x0 x1 x2 x3 x4)), .val (.ref b13), .val (.ref b18), .val (.int (f0_v30 x0 x1 x2 x3 x4)), .val (.int (f0_v32 x0 x1 x2 x3 x4)), .val (.int (f0_j47 x0 x1 x2 x3 x4)), .unset] [(.int (1 : Int32))])) _
            refine XS.goto X48.here hx rfl (pc0 := 127) (pc' := 131) rfl (hb hby at_127) (by decide) (by decide) ?_
            exact k
          have qj0 : (f0_j60 x0 x1 x2 x3 x4) = (1 : Int32) := if_neg (own_nt hc59)
          refine ⟨T48, _, X48, N48, e48, fun t k => pre63 _ ?_⟩
          rw [qj0] at k
          exact k
      have pre67 : ∀ t, Steps p.tables e below (T61.setTop (mkF m 150 #[.val (.long x0), .second, .val (.int x1), .val (.long x2), .second, .val (.int x3), .val (.int x4), .val (.long (f0_j3 x0 x1 x2 x3 x4)), .second, .val (.int (f0_j9 x0 x1 x2 x3 x4)), .val (.ref b13), .val (.ref b18), .val (.int (f0_v30 x0 x1 x2 x3 x4)), .val (.int (f0_v32 x0 x1 x2 x3 x4)), .val (.int (f0_j47 x0 x1 x2 x3 x4)), .val (.int (f0_j60 x0 x1 x2 x3 x4))] [])) t → Steps p.tables e below (s₁.setTop (entryFrame m #[(.long x0), (.int x1), (.long x2), (.int x3), (.int x4)] maxLocals)) t := by
        intro t k
        refine pre61 _ ?_
        show Steps p.tables e below (T61.setTop (mkF m 131 #[.val (.long x0), .second, .val (.int x1), .val (.long x2), .second, .val (.int x3), .val (.int x4), .val (.long (f0_j3 x0 x1 x2 x3 x4)), .second, .val (.int (f0_j9 x0 x1 x2 x3 x4)), .val (.ref b13), .val (.ref b18), .val (.int (f0_v30 x0 x1 x2 x3 x4)), .val (.int (f0_v32 x0 x1 x2 x3 x4)), .val (.int (f0_j47 x0 x1 x2 x3 x4)), .unset] [(.int (f0_j60 x0 x1 x2 x3 x4))])) _
        refine XS.istore X61.here hx rfl (hb hby at_131) rfl (l' := #[.val (.long x0), .second, .val (.int x1), .val (.long x2), .second, .val (.int x3), .val (.int x4), .val (.long (f0_j3 x0 x1 x2 x3 x4)), .second, .val (.int (f0_j9 x0 x1 x2 x3 x4)), .val (.ref b13), .val (.ref b18), .val (.int (f0_v30 x0 x1 x2 x3 x4)), .val (.int (f0_v32 x0 x1 x2 x3 x4)), .val (.int (f0_j47 x0 x1 x2 x3 x4)), .val (.int (f0_j60 x0 x1 x2 x3 x4))]) rfl ?_
        show Steps p.tables e below (T61.setTop (mkF m 133 #[.val (.long x0), .second, .val (.int x1), .val (.long x2), .second, .val (.int x3), .val (.int x4), .val (.long (f0_j3 x0 x1 x2 x3 x4)), .second, .val (.int (f0_j9 x0 x1 x2 x3 x4)), .val (.ref b13), .val (.ref b18), .val (.int (f0_v30 x0 x1 x2 x3 x4)), .val (.int (f0_v32 x0 x1 x2 x3 x4)), .val (.int (f0_j47 x0 x1 x2 x3 x4)), .val (.int (f0_j60 x0 x1 x2 x3 x4))] [])) _
        refine XS.goto X61.here hx rfl (pc0 := 133) (pc' := 150) rfl (hb hby at_133) (by decide) (by decide) ?_
        exact k
      have qj0 : (f0_j64 x0 x1 x2 x3 x4) = (f0_j60 x0 x1 x2 x3 x4) := if_neg (own_nt hc51)
      refine ⟨T61, _, X61, N61, e61, fun t k => pre67 _ ?_⟩
      rw [qj0] at k
      exact k
  have pre68 : ∀ t, Steps p.tables e below (T65.setTop (mkF m 154 #[.val (.long x0), .second, .val (.int x1), .val (.long x2), .second, .val (.int x3), .val (.int x4), .val (.long (f0_j3 x0 x1 x2 x3 x4)), .second, .val (.int (f0_j9 x0 x1 x2 x3 x4)), .val (.ref b13), .val (.ref b18), .val (.int (f0_v30 x0 x1 x2 x3 x4)), .val (.int (f0_v32 x0 x1 x2 x3 x4)), .val (.int (f0_j47 x0 x1 x2 x3 x4)), .val (.int (f0_j64 x0 x1 x2 x3 x4))] [(.int (f0_j47 x0 x1 x2 x3 x4)), (.int (f0_v30 x0 x1 x2 x3 x4))])) t → Steps p.tables e below (s₁.setTop (entryFrame m #[(.long x0), (.int x1), (.long x2), (.int x3), (.int x4)] maxLocals)) t := by
    intro t k
    refine pre65 _ ?_
    show Steps p.tables e below (T65.setTop (mkF m 150 #[.val (.long x0), .second, .val (.int x1), .val (.long x2), .second, .val (.int x3), .val (.int x4), .val (.long (f0_j3 x0 x1 x2 x3 x4)), .second, .val (.int (f0_j9 x0 x1 x2 x3 x4)), .val (.ref b13), .val (.ref b18), .val (.int (f0_v30 x0 x1 x2 x3 x4)), .val (.int (f0_v32 x0 x1 x2 x3 x4)), .val (.int (f0_j47 x0 x1 x2 x3 x4)), .val (.int (f0_j64 x0 x1 x2 x3 x4))] [])) _
    refine XS.iload X65.here hx rfl (hb hby at_150) rfl ?_
    show Steps p.tables e below (T65.setTop (mkF m 152 #[.val (.long x0), .second, .val (.int x1), .val (.long x2), .second, .val (.int x3), .val (.int x4), .val (.long (f0_j3 x0 x1 x2 x3 x4)), .second, .val (.int (f0_j9 x0 x1 x2 x3 x4)), .val (.ref b13), .val (.ref b18), .val (.int (f0_v30 x0 x1 x2 x3 x4)), .val (.int (f0_v32 x0 x1 x2 x3 x4)), .val (.int (f0_j47 x0 x1 x2 x3 x4)), .val (.int (f0_j64 x0 x1 x2 x3 x4))] [(.int (f0_v30 x0 x1 x2 x3 x4))])) _
    refine XS.iload X65.here hx rfl (hb hby at_152) rfl ?_
    exact k
  obtain ⟨T77, L77, X77, N77, e77, pre77⟩ : ∃ (T' : State) (L' : List Loc), Stand p l e room_1 s m #[(.long x0), (.int x1), (.long x2), (.int x3), (.int x4)] below meth c T' L' 2 4 ∧ Fr n0 L' ∧ T'.heap = h24 ∧ ∀ t, Steps p.tables e below (T'.setTop (mkF m 167 #[.val (.long x0), .second, .val (.int x1), .val (.long x2), .second, .val (.int x3), .val (.int x4), .val (.long (f0_j3 x0 x1 x2 x3 x4)), .second, .val (.int (f0_j9 x0 x1 x2 x3 x4)), .val (.ref b13), .val (.ref b18), .val (.int (f0_v30 x0 x1 x2 x3 x4)), .val (.int (f0_v32 x0 x1 x2 x3 x4)), .val (.int (f0_j47 x0 x1 x2 x3 x4)), .val (.int (f0_j64 x0 x1 x2 x3 x4))] [(.int (f0_j76 x0 x1 x2 x3 x4))])) t → Steps p.tables e below (s₁.setTop (entryFrame m #[(.long x0), (.int x1), (.long x2), (.int x3), (.int x4)] maxLocals)) t := by
    rcases Bool.eq_false_or_eq_true (if_icmp.holds .ne (f0_v30 x0 x1 x2 x3 x4) (f0_j47 x0 x1 x2 x3 x4)) with hc69 | hc69
    · have pre78 : ∀ t, Steps p.tables e below (T65.setTop (mkF m 167 #[.val (.long x0), .second, .val (.int x1), .val (.long x2), .second, .val (.int x3), .val (.int x4), .val (.long (f0_j3 x0 x1 x2 x3 x4)), .second, .val (.int (f0_j9 x0 x1 x2 x3 x4)), .val (.ref b13), .val (.ref b18), .val (.int (f0_v30 x0 x1 x2 x3 x4)), .val (.int (f0_v32 x0 x1 x2 x3 x4)), .val (.int (f0_j47 x0 x1 x2 x3 x4)), .val (.int (f0_j64 x0 x1 x2 x3 x4))] [(.int (0 : Int32))])) t → Steps p.tables e below (s₁.setTop (entryFrame m #[(.long x0), (.int x1), (.long x2), (.int x3), (.int x4)] maxLocals)) t := by
        intro t k
        refine pre68 _ ?_
        show Steps p.tables e below (T65.setTop (mkF m 154 #[.val (.long x0), .second, .val (.int x1), .val (.long x2), .second, .val (.int x3), .val (.int x4), .val (.long (f0_j3 x0 x1 x2 x3 x4)), .second, .val (.int (f0_j9 x0 x1 x2 x3 x4)), .val (.ref b13), .val (.ref b18), .val (.int (f0_v30 x0 x1 x2 x3 x4)), .val (.int (f0_v32 x0 x1 x2 x3 x4)), .val (.int (f0_j47 x0 x1 x2 x3 x4)), .val (.int (f0_j64 x0 x1 x2 x3 x4))] [(.int (f0_j47 x0 x1 x2 x3 x4)), (.int (f0_v30 x0 x1 x2 x3 x4))])) _
        refine XS.icmpYes X65.here hx rfl (pc0 := 154) (pc' := 166) rfl (hb hby at_154) rfl hc69 (by decide) (by decide) ?_
        show Steps p.tables e below (T65.setTop (mkF m 166 #[.val (.long x0), .second, .val (.int x1), .val (.long x2), .second, .val (.int x3), .val (.int x4), .val (.long (f0_j3 x0 x1 x2 x3 x4)), .second, .val (.int (f0_j9 x0 x1 x2 x3 x4)), .val (.ref b13), .val (.ref b18), .val (.int (f0_v30 x0 x1 x2 x3 x4)), .val (.int (f0_v32 x0 x1 x2 x3 x4)), .val (.int (f0_j47 x0 x1 x2 x3 x4)), .val (.int (f0_j64 x0 x1 x2 x3 x4))] [])) _
        refine XS.iconst X65.here hx rfl (hb hby at_166) ?_
        exact k
      have qj0 : (f0_j76 x0 x1 x2 x3 x4) = (0 : Int32) := if_pos hc69
      refine ⟨T65, _, X65, N65, e65, fun t k => pre78 _ ?_⟩
      rw [qj0] at k
      exact k
    · have pre70 : ∀ t, Steps p.tables e below (T65.setTop (mkF m 159 #[.val (.long x0), .second, .val (.int x1), .val (.long x2), .second, .val (.int x3), .val (.int x4), .val (.long (f0_j3 x0 x1 x2 x3 x4)), .second, .val (.int (f0_j9 x0 x1 x2 x3 x4)), .val (.ref b13), .val (.ref b18), .val (.int (f0_v30 x0 x1 x2 x3 x4)), .val (.int (f0_v32 x0 x1 x2 x3 x4)), .val (.int (f0_j47 x0 x1 x2 x3 x4)), .val (.int (f0_j64 x0 x1 x2 x3 x4))] [(.int (f0_j64 x0 x1 x2 x3 x4))])) t → Steps p.tables e below (s₁.setTop (entryFrame m #[(.long x0), (.int x1), (.long x2), (.int x3), (.int x4)] maxLocals)) t := by
        intro t k
        refine pre68 _ ?_
        show Steps p.tables e below (T65.setTop (mkF m 154 #[.val (.long x0), .second, .val (.int x1), .val (.long x2), .second, .val (.int x3), .val (.int x4), .val (.long (f0_j3 x0 x1 x2 x3 x4)), .second, .val (.int (f0_j9 x0 x1 x2 x3 x4)), .val (.ref b13), .val (.ref b18), .val (.int (f0_v30 x0 x1 x2 x3 x4)), .val (.int (f0_v32 x0 x1 x2 x3 x4)), .val (.int (f0_j47 x0 x1 x2 x3 x4)), .val (.int (f0_j64 x0 x1 x2 x3 x4))] [(.int (f0_j47 x0 x1 x2 x3 x4)), (.int (f0_v30 x0 x1 x2 x3 x4))])) _
        refine XS.icmpNo X65.here hx rfl (hb hby at_154) rfl hc69 ?_
        show Steps p.tables e below (T65.setTop (mkF m 157 #[.val (.long x0), .second, .val (.int x1), .val (.long x2), .second, .val (.int x3), .val (.int x4), .val (.long (f0_j3 x0 x1 x2 x3 x4)), .second, .val (.int (f0_j9 x0 x1 x2 x3 x4)), .val (.ref b13), .val (.ref b18), .val (.int (f0_v30 x0 x1 x2 x3 x4)), .val (.int (f0_v32 x0 x1 x2 x3 x4)), .val (.int (f0_j47 x0 x1 x2 x3 x4)), .val (.int (f0_j64 x0 x1 x2 x3 x4))] [])) _
        refine XS.iload X65.here hx rfl (hb hby at_157) rfl ?_
        exact k
      obtain ⟨T73, L73, X73, N73, e73, pre73⟩ : ∃ (T' : State) (L' : List Loc), Stand p l e room_1 s m #[(.long x0), (.int x1), (.long x2), (.int x3), (.int x4)] below meth c T' L' 2 4 ∧ Fr n0 L' ∧ T'.heap = h24 ∧ ∀ t, Steps p.tables e below (T'.setTop (mkF m 167 #[.val (.long x0), .second, .val (.int x1), .val (.long x2), .second, .val (.int x3), .val (.int x4), .val (.long (f0_j3 x0 x1 x2 x3 x4)), .second, .val (.int (f0_j9 x0 x1 x2 x3 x4)), .val (.ref b13), .val (.ref b18), .val (.int (f0_v30 x0 x1 x2 x3 x4)), .val (.int (f0_v32 x0 x1 x2 x3 x4)), .val (.int (f0_j47 x0 x1 x2 x3 x4)), .val (.int (f0_j64 x0 x1 x2 x3 x4))] [(.int (f0_j72 x0 x1 x2 x3 x4))])) t → Steps p.tables e below (s₁.setTop (entryFrame m #[(.long x0), (.int x1), (.long x2), (.int x3), (.int x4)] maxLocals)) t := by
        rcases Bool.eq_false_or_eq_true (ifCond.holds .eq (f0_j64 x0 x1 x2 x3 x4)) with hc71 | hc71
        · have pre74 : ∀ t, Steps p.tables e below (T65.setTop (mkF m 167 #[.val (.long x0), .second, .val (.int x1), .val (.long x2), .second, .val (.int x3), .val (.int x4), .val (.long (f0_j3 x0 x1 x2 x3 x4)), .second, .val (.int (f0_j9 x0 x1 x2 x3 x4)), .val (.ref b13), .val (.ref b18), .val (.int (f0_v30 x0 x1 x2 x3 x4)), .val (.int (f0_v32 x0 x1 x2 x3 x4)), .val (.int (f0_j47 x0 x1 x2 x3 x4)), .val (.int (f0_j64 x0 x1 x2 x3 x4))] [(.int (0 : Int32))])) t → Steps p.tables e below (s₁.setTop (entryFrame m #[(.long x0), (.int x1), (.long x2), (.int x3), (.int x4)] maxLocals)) t := by
            intro t k
            refine pre70 _ ?_
            show Steps p.tables e below (T65.setTop (mkF m 159 #[.val (.long x0), .second, .val (.int x1), .val (.long x2), .second, .val (.int x3), .val (.int x4), .val (.long (f0_j3 x0 x1 x2 x3 x4)), .second, .val (.int (f0_j9 x0 x1 x2 x3 x4)), .val (.ref b13), .val (.ref b18), .val (.int (f0_v30 x0 x1 x2 x3 x4)), .val (.int (f0_v32 x0 x1 x2 x3 x4)), .val (.int (f0_j47 x0 x1 x2 x3 x4)), .val (.int (f0_j64 x0 x1 x2 x3 x4))] [(.int (f0_j64 x0 x1 x2 x3 x4))])) _
            refine XS.ifYes X65.here hx rfl (pc0 := 159) (pc' := 166) rfl (hb hby at_159) rfl hc71 (by decide) (by decide) ?_
            show Steps p.tables e below (T65.setTop (mkF m 166 #[.val (.long x0), .second, .val (.int x1), .val (.long x2), .second, .val (.int x3), .val (.int x4), .val (.long (f0_j3 x0 x1 x2 x3 x4)), .second, .val (.int (f0_j9 x0 x1 x2 x3 x4)), .val (.ref b13), .val (.ref b18), .val (.int (f0_v30 x0 x1 x2 x3 x4)), .val (.int (f0_v32 x0 x1 x2 x3 x4)), .val (.int (f0_j47 x0 x1 x2 x3 x4)), .val (.int (f0_j64 x0 x1 x2 x3 x4))] [])) _
            refine XS.iconst X65.here hx rfl (hb hby at_166) ?_
            exact k
          have qj0 : (f0_j72 x0 x1 x2 x3 x4) = (0 : Int32) := if_pos hc71
          refine ⟨T65, _, X65, N65, e65, fun t k => pre74 _ ?_⟩
          rw [qj0] at k
          exact k
        · have pre75 : ∀ t, Steps p.tables e below (T65.setTop (mkF m 167 #[.val (.long x0), .second, .val (.int x1), .val (.long x2), .second, .val (.int x3), .val (.int x4), .val (.long (f0_j3 x0 x1 x2 x3 x4)), .second, .val (.int (f0_j9 x0 x1 x2 x3 x4)), .val (.ref b13), .val (.ref b18), .val (.int (f0_v30 x0 x1 x2 x3 x4)), .val (.int (f0_v32 x0 x1 x2 x3 x4)), .val (.int (f0_j47 x0 x1 x2 x3 x4)), .val (.int (f0_j64 x0 x1 x2 x3 x4))] [(.int (1 : Int32))])) t → Steps p.tables e below (s₁.setTop (entryFrame m #[(.long x0), (.int x1), (.long x2), (.int x3), (.int x4)] maxLocals)) t := by
            intro t k
            refine pre70 _ ?_
            show Steps p.tables e below (T65.setTop (mkF m 159 #[.val (.long x0), .second, .val (.int x1), .val (.long x2), .second, .val (.int x3), .val (.int x4), .val (.long (f0_j3 x0 x1 x2 x3 x4)), .second, .val (.int (f0_j9 x0 x1 x2 x3 x4)), .val (.ref b13), .val (.ref b18), .val (.int (f0_v30 x0 x1 x2 x3 x4)), .val (.int (f0_v32 x0 x1 x2 x3 x4)), .val (.int (f0_j47 x0 x1 x2 x3 x4)), .val (.int (f0_j64 x0 x1 x2 x3 x4))] [(.int (f0_j64 x0 x1 x2 x3 x4))])) _
            refine XS.ifNo X65.here hx rfl (hb hby at_159) rfl hc71 ?_
            show Steps p.tables e below (T65.setTop (mkF m 162 #[.val (.long x0), .second, .val (.int x1), .val (.long x2), .second, .val (.int x3), .val (.int x4), .val (.long (f0_j3 x0 x1 x2 x3 x4)), .second, .val (.int (f0_j9 x0 x1 x2 x3 x4)), .val (.ref b13), .val (.ref b18), .val (.int (f0_v30 x0 x1 x2 x3 x4)), .val (.int (f0_v32 x0 x1 x2 x3 x4)), .val (.int (f0_j47 x0 x1 x2 x3 x4)), .val (.int (f0_j64 x0 x1 x2 x3 x4))] [])) _
            refine XS.iconst X65.here hx rfl (hb hby at_162) ?_
            show Steps p.tables e below (T65.setTop (mkF m 163 #[.val (.long x0), .second, .val (.int x1), .val (.long x2), .second, .val (.int x3), .val (.int x4), .val (.long (f0_j3 x0 x1 x2 x3 x4)), .second, .val (.int (f0_j9 x0 x1 x2 x3 x4)), .val (.ref b13), .val (.ref b18), .val (.int (f0_v30 x0 x1 x2 x3 x4)), .val (.int (f0_v32 x0 x1 x2 x3 x4)), .val (.int (f0_j47 x0 x1 x2 x3 x4)), .val (.int (f0_j64 x0 x1 x2 x3 x4))] [(.int (1 : Int32))])) _
            refine XS.goto X65.here hx rfl (pc0 := 163) (pc' := 167) rfl (hb hby at_163) (by decide) (by decide) ?_
            exact k
          have qj0 : (f0_j72 x0 x1 x2 x3 x4) = (1 : Int32) := if_neg (own_nt hc71)
          refine ⟨T65, _, X65, N65, e65, fun t k => pre75 _ ?_⟩
          rw [qj0] at k
          exact k
      have qj0 : (f0_j76 x0 x1 x2 x3 x4) = (f0_j72 x0 x1 x2 x3 x4) := if_neg (own_nt hc69)
      refine ⟨T73, _, X73, N73, e73, fun t k => pre73 _ ?_⟩
      rw [qj0] at k
      exact k
  obtain ⟨fs, hr, hrun, hended, hW, hsame⟩ := X77.leave (v := some (.int (nar .boolean (f0_j76 x0 x1 x2 x3 x4)))) (fun h => by rw [hret] at h; cases h)
  refine ⟨_, _, pre77 _ ?_, hrun, hended, _, _, rfl, ?_, ⟨_, rfl⟩, hW, hsame.mono (by decide) (by decide)⟩
  · show Steps p.tables e below (T77.setTop (mkF m 167 #[.val (.long x0), .second, .val (.int x1), .val (.long x2), .second, .val (.int x3), .val (.int x4), .val (.long (f0_j3 x0 x1 x2 x3 x4)), .second, .val (.int (f0_j9 x0 x1 x2 x3 x4)), .val (.ref b13), .val (.ref b18), .val (.int (f0_v30 x0 x1 x2 x3 x4)), .val (.int (f0_v32 x0 x1 x2 x3 x4)), .val (.int (f0_j47 x0 x1 x2 x3 x4)), .val (.int (f0_j64 x0 x1 x2 x3 x4))] [(.int (f0_j76 x0 x1 x2 x3 x4))])) _
    exact retN X77 hx (t := .boolean) hret (by simp) (hb hby at_167) hr
  · show Q0 Z x0 x1 x2 x3 x4 h0 n0 _ T77.heap _
    rw [e77]
    have rr : f0 x0 x1 x2 x3 x4 = (nar .boolean (f0_j76 x0 x1 x2 x3 x4)) := rfl
    exact ⟨congrArg (fun z => some (Value.int z)) rr.symm, N77⟩
/-- what the promise allows -/
def own_ok (n : Int64) (m : Int32) (e : Int64) (l : Int32) : Prop := e.toInt < n.toInt ∨ (n.toInt = e.toInt ∧ m.toInt = l.toInt)
theorem own_f4 (n : Int64) (m : Int32) (e : Int64) (l : Int32) : (own_ok n m e l ∧ f4 n m e l = 1) ∨ (¬ own_ok n m e l ∧ f4 n m e l = 0) := by
  unfold f4 f4_j17 f4_j14 f4_j10 own_ok
  simp only [own_cgt, own_cne, own_ine]
  split
  · exact Or.inl ⟨by omega, rfl⟩
  · split
    · exact Or.inr ⟨by omega, rfl⟩
    · split
      · exact Or.inr ⟨by omega, rfl⟩
      · exact Or.inl ⟨by omega, rfl⟩
theorem own_j47 (x0 : Int64) (x1 : Int32) (x2 : Int64) (x3 : Int32) (x4 : Int32) : (own_ok (f0_j3 x0 x1 x2 x3 x4) (f0_j9 x0 x1 x2 x3 x4) x0 x1 ∧ f0_j47 x0 x1 x2 x3 x4 = 1) ∨ (¬ own_ok (f0_j3 x0 x1 x2 x3 x4) (f0_j9 x0 x1 x2 x3 x4) x0 x1 ∧ f0_j47 x0 x1 x2 x3 x4 = 0) := by
  unfold f0_j47 f0_j43 f0_j39 own_ok
  simp only [own_cge, own_cne, own_ine]
  split
  · split
    · exact Or.inl ⟨by omega, rfl⟩
    · split
      · exact Or.inr ⟨by omega, rfl⟩
      · exact Or.inl ⟨by omega, rfl⟩
  · exact Or.inr ⟨by omega, rfl⟩
theorem own_law (x0 : Int64) (x1 : Int32) (x2 : Int64) (x3 : Int32) (x4 : Int32) : f0 x0 x1 x2 x3 x4 = 1 := by
  have e0 : (0 : Int32).toInt = 0 := rfl
  have e1 : (1 : Int32).toInt = 1 := rfl
  have h1 : f0_v30 x0 x1 x2 x3 x4 = f0_j47 x0 x1 x2 x3 x4 := by
    unfold f0_v30
    rcases own_f4 (f0_j3 x0 x1 x2 x3 x4) (f0_j9 x0 x1 x2 x3 x4) x0 x1 with ⟨h1, h2⟩ | ⟨h1, h2⟩ <;> rcases own_j47 x0 x1 x2 x3 x4 with ⟨h3, h4⟩ | ⟨h3, h4⟩
    · rw [h2, h4]
    · exact absurd h1 h3
    · exact absurd h3 h1
    · rw [h2, h4]
  have h2 : f0_j64 x0 x1 x2 x3 x4 = 1 := by
    unfold f0_j64 f0_j54 f0_j60 f0_v32 f0_v30
    simp only [own_cne]
    have a := own_f4 (f0_j3 x0 x1 x2 x3 x4) (f0_j9 x0 x1 x2 x3 x4) x0 x1
    have b := own_f4 x0 x1 (f0_j3 x0 x1 x2 x3 x4) (f0_j9 x0 x1 x2 x3 x4)
    unfold own_ok at a b
    generalize f0_j3 x0 x1 x2 x3 x4 = N at *
    generalize f0_j9 x0 x1 x2 x3 x4 = M at *
    split
    · rcases a with ⟨a1, a2⟩ | ⟨a1, a2⟩ <;> rcases b with ⟨b1, b2⟩ | ⟨b1, b2⟩ <;> rw [a2, b2] <;> first | (exfalso; omega) | rfl
    · rcases a with ⟨a1, a2⟩ | ⟨a1, a2⟩ <;> rcases b with ⟨b1, b2⟩ | ⟨b1, b2⟩ <;> rw [a2, b2] <;> first | (exfalso; omega) | rfl
  have h3 : f0_j72 x0 x1 x2 x3 x4 = 1 := by
    unfold f0_j72
    rw [h2]
    rfl
  have h4 : f0_j76 x0 x1 x2 x3 x4 = 1 := by
    unfold f0_j76
    rw [h1, if_neg (by rw [own_ine]; exact fun q => q rfl)]
    exact h3
  exact own_nar1 h4
set_option maxRecDepth 65536 in
set_option maxHeartbeats 40000000 in
theorem comes_1 {Post : Tables → Env → Array Value → State → Outcome → State → Prop} (hpost : ∀ tb e args s v u, (limb_1_1.after args s (.returned v) u = true ∧ limb_1_2.after args s (.returned v) u = true ∧ True) → FrameEnd s (.returned v) u (Jvm.fieldLocs frame_1_writes args s ++ Jvm.arrayLocs frame_1_arrays args s ++ Jvm.staticLocs frame_1_statics s) 16 128 → Post tb e args s (.returned v) u) :
    ArmFor flags0 classFile x code maxLocals ret World_1 tables_1 room_1 Calls_1 rest_1 Pre_1 Post := by
  intro l hfl _ _ p e ha hc hk s m args below hf hA hF happ hP
  obtain ⟨hcalls, hrest, hpre⟩ := hP
  obtain ⟨-, -, -, hnamed, -, -, -, hat⟩ := (Spec.applies_iff hf).mp happ
  obtain ⟨hg, hn⟩ := and_e (Cond.before_iff.mp (show (Jvm.Cond.and given_1 narrow_1).before args s = true from hpre))
  obtain ⟨g1, g2⟩ := and_e hg
  obtain ⟨g3, g4⟩ := and_e g2
  obtain ⟨g5, g6⟩ := and_e g4
  obtain ⟨g7, g8⟩ := and_e g6
  obtain ⟨g9, g10⟩ := and_e g8
  obtain ⟨w0, w1, w2, w3, w4, rfl⟩ : ∃ w0 w1 w2 w3 w4 : Value, args = #[w0, w1, w2, w3, w4] := by
    have hs : args.size = 5 := by simpa [Cond.value, given_1] using g1
    obtain ⟨L⟩ := args
    match L, hs with
    | [w0, w1, w2, w3, w4], _ => exact ⟨w0, w1, w2, w3, w4, rfl⟩
  have hw := fun d (hd : d ∈ tables_1) => atoms_spec (ws := Jvm.Cond.code x code maxLocals ret :: tables_1) hat d (List.mem_cons_of_mem _ hd)
  obtain ⟨i0, ei0⟩ := isL_v g3
  obtain rfl : w0 = (.long i0) := Option.some.inj ei0
  obtain ⟨i1, ei1⟩ := is_v g5
  obtain rfl : w1 = (.int i1) := Option.some.inj ei1
  obtain ⟨i2, ei2⟩ := isL_v g7
  obtain rfl : w2 = (.long i2) := Option.some.inj ei2
  obtain ⟨i3, ei3⟩ := is_v g9
  obtain rfl : w3 = (.int i3) := Option.some.inj ei3
  obtain ⟨i4, ei4⟩ := is_v g10
  obtain rfl : w4 = (.int i4) := Option.some.inj ei4
  obtain ⟨n, o, h1, h2, h3, v, L, rfl, ⟨hv, N⟩, hq⟩ := rm0 l s _ hw tables_1 i0 i1 i2 i3 i4 s.heap s.heap.size (Nat.le_refl _) p e ha hc hk s m _ below hf ((Spec.applies_iff_loose hf).mp happ).1 ⟨rfl, State.Warmed39.refl s, rfl⟩ trivial
  rw [own_law] at hv
  subst hv
  refine ⟨n, _, h1, h2, h3, hpost _ _ _ _ _ _ ⟨Cond.after_iff.mpr rfl, Cond.after_iff.mpr (eq_i res_at (Term.int_eval (1)) rfl), trivial⟩ ⟨hq.1, hq.2.1, (hq.2.2.sift fun y hy => Or.inr (N y hy)).mono (by decide) (by decide)⟩⟩
theorem main_1_1 : Claimed_1_1 := comes_1 fun _ _ _ _ _ _ h hF => ⟨h.1, hF⟩
theorem main_1_2 : Claimed_1_2 := comes_1 fun _ _ _ _ _ _ h hF => ⟨h.2.1, hF⟩
end Jvm.Pilot.@@N@@
namespace Jvm.Pilot.@@N@@
open Jvm Jvm.ClassFile Sem Op Lib Jvm.Free Jvm.Stand Jvm.Pilot.@@N@@.Jvm.D
/-! MADE BY PROGRAM (witnessworld.py) out of the Statement's table words and the real class files: 10 classes; the members and pool entries that the words name. The judged class is class 1, her method 1. -/
namespace start1
open Jvm.ClassFile
def u (s : String) : CpInfo := .utf8 (stringToUtf16 s)
/-- a pool by its gaps: so many unusable entries, then the entry; so many at the end -/
def gap : Nat → List CpInfo → List CpInfo
  | 0, r => r
  | n + 1, r => .unusable :: gap n r
def poolList (es : List (Nat × CpInfo)) (last : Nat) : List CpInfo := es.foldr (fun e r => gap e.1 (e.2 :: r)) (gap last [])
def pool (es : List (Nat × CpInfo)) (last : Nat) : Array CpInfo := ⟨poolList es last⟩
def fileOf (pool : Array CpInfo) (this : Nat) (attrs : Array Attribute := #[]) (ms : Array MethodInfo := #[]) (fl : Nat := 33) (sup : Nat := 0) (ifs : Array Nat := #[]) (fds : Array FieldInfo := #[]) : ClassFile where
  minorVersion := 0
  majorVersion := 65
  constantPool := pool
  accessFlags := fl
  thisClass := this
  superClass := sup
  interfaces := ifs
  fields := fds
  methods := ms
  attributes := attrs
def plain (name : String) (sup : Option ClassId) : Class where
  name := name
  kind := .ordinary
  loader := none
  accessFlags := 33
  super := sup
  interfaces := #[]
  cf := none
  fields := #[]
  methods := #[]
  instanceTypes := #[]
  staticTypes := #[]
  resolved := #[]
  callSites := []
  init := .initialized
  statics := none
  mirror := none

def pool0 : Array CpInfo := pool [(5, u "<init>"), (0, u "()V"), (1, .class_ 10), (1, u "java/lang/Object")] 113

def k0c0 : Code := { maxStack := 0, maxLocals := 1, code := object_method_1_code, exceptionTable := #[], attributes := #[] }
def k0m0 : Method := { name := "<init>", desc := "()V", sig := { parameters := [], returnType := none }, accessFlags := 1, code := some k0c0 }
/-- java/lang/Object -/
def k0 : Class := { plain "java/lang/Object" none with
  accessFlags := 33
  interfaces := #[]
  cf := some (fileOf pool0 8 #[] #[{ accessFlags := 1, nameIndex := 5, descriptorIndex := 6, attributes := #[] }] 33 0 #[] #[])
  fields := #[]
  methods := #[k0m0]
  instanceTypes := #[]
  staticTypes := #[]
  resolved := Array.replicate 124 none
  statics := none }

def pool1 : Array CpInfo := pool [(2, .class_ 4), (1, u "java/lang/Object"), (0, u "<init>"), (0, u "()V"), (0, .class_ 8), (0, u "com/example/nodes_in_quorum/nodesinquorum/quorum/Promise"), (0, .methodref 7 10), (0, .nameAndType 5 11), (0, u "(JI)V"), (0, .methodref 7 13), (0, .nameAndType 14 15), (0, u "allows"), (0, u "(JI)Z"), (0, .class_ 17), (0, u "com/example/nodes_in_quorum/nodesinquorum/quorum/PromiseAllowsPinLaw"), (2, u "law"), (0, u "(JIJII)Z")] 3

def k1m0 : Method := { name := "<init>", desc := "()V", sig := { parameters := [], returnType := none }, accessFlags := 1, code := none }
def k1c1 : Code := { maxStack := 5, maxLocals := 16, code := code, exceptionTable := #[], attributes := #[] }
def k1m1 : Method := { name := "law", desc := "(JIJII)Z", sig := { parameters := [.long, .int, .long, .int, .int], returnType := some .boolean }, accessFlags := 9, code := some k1c1 }
/-- com/example/nodes_in_quorum/nodesinquorum/quorum/PromiseAllowsPinLaw -/
def k1 : Class := { plain "com/example/nodes_in_quorum/nodesinquorum/quorum/PromiseAllowsPinLaw" (some 0) with
  accessFlags := 49
  interfaces := #[]
  cf := some (fileOf pool1 16 #[] #[{ accessFlags := 1, nameIndex := 5, descriptorIndex := 6, attributes := #[] }, { accessFlags := 9, nameIndex := 20, descriptorIndex := 21, attributes := #[] }] 49 2 #[] #[])
  fields := #[]
  methods := #[k1m0, k1m1]
  instanceTypes := #[]
  staticTypes := #[]
  resolved := Array.replicate 25 none
  statics := none }

def pool2 : Array CpInfo := pool [(1, .methodref 2 3), (0, .class_ 4), (0, .nameAndType 5 6), (0, u "java/lang/Object"), (0, u "<init>"), (0, u "()V"), (0, .class_ 8), (0, u "java/lang/Record")] 13

def k2c0 : Code := { maxStack := 1, maxLocals := 1, code := jdk_30_method_1_code, exceptionTable := #[], attributes := #[] }
def k2m0 : Method := { name := "<init>", desc := "()V", sig := { parameters := [], returnType := none }, accessFlags := 4, code := some k2c0 }
/-- java/lang/Record -/
def k2 : Class := { plain "java/lang/Record" (some 0) with
  accessFlags := 1057
  interfaces := #[]
  cf := some (fileOf pool2 7 #[] #[{ accessFlags := 4, nameIndex := 5, descriptorIndex := 6, attributes := #[] }] 1057 2 #[] #[])
  fields := #[]
  methods := #[k2m0]
  instanceTypes := #[]
  staticTypes := #[]
  resolved := Array.replicate 22 none
  statics := none }

def pool3 : Array CpInfo := pool [(1, .methodref 2 3), (0, .class_ 4), (0, .nameAndType 5 6), (0, u "java/lang/Record"), (0, u "<init>"), (0, u "()V"), (0, .fieldref 8 9), (0, .class_ 10), (0, .nameAndType 11 12), (0, u "com/example/nodes_in_quorum/nodesinquorum/quorum/Promise"), (0, u "epoch"), (0, u "J"), (0, .fieldref 8 14), (0, .nameAndType 15 16), (0, u "leader"), (0, u "I"), (30, u "NONE"), (0, u "Lcom/example/nodes_in_quorum/nodesinquorum/quorum/Promise;"), (24, u "(JI)V"), (101, u "FILE"), (0, u "Ljava/lang/String;"), (10, u "allows"), (0, u "(JI)Z")] 38

def k3c0 : Code := { maxStack := 3, maxLocals := 4, code := prog_88_method_1_code, exceptionTable := #[], attributes := #[] }
def k3m0 : Method := { name := "<init>", desc := "(JI)V", sig := { parameters := [.long, .int], returnType := none }, accessFlags := 0, code := some k3c0 }
def k3c1 : Code := { maxStack := 4, maxLocals := 4, code := prog_88_method_4_code, exceptionTable := #[], attributes := #[] }
def k3m1 : Method := { name := "allows", desc := "(JI)Z", sig := { parameters := [.long, .int], returnType := some .boolean }, accessFlags := 0, code := some k3c1 }
/-- com/example/nodes_in_quorum/nodesinquorum/quorum/Promise -/
def k3 : Class := { plain "com/example/nodes_in_quorum/nodesinquorum/quorum/Promise" (some 2) with
  accessFlags := 48
  interfaces := #[]
  cf := some (fileOf pool3 8 #[] #[{ accessFlags := 0, nameIndex := 5, descriptorIndex := 73, attributes := #[] }, { accessFlags := 0, nameIndex := 187, descriptorIndex := 188, attributes := #[] }] 48 2 #[] #[{ accessFlags := 18, nameIndex := 11, descriptorIndex := 12, attributes := #[] }, { accessFlags := 18, nameIndex := 15, descriptorIndex := 16, attributes := #[] }, { accessFlags := 24, nameIndex := 47, descriptorIndex := 48, attributes := #[] }, { accessFlags := 26, nameIndex := 175, descriptorIndex := 176, attributes := #[] }])
  fields := #[{ name := "epoch", type := .long, accessFlags := 18, slot := 0, constantValue := 0 }, { name := "leader", type := .int, accessFlags := 18, slot := 1, constantValue := 0 }, { name := "NONE", type := (.object "com/example/nodes_in_quorum/nodesinquorum/quorum/Promise"), accessFlags := 24, slot := 0, constantValue := 0 }, { name := "FILE", type := (.object "java/lang/String"), accessFlags := 26, slot := 1, constantValue := 0 }]
  methods := #[k3m0, k3m1]
  instanceTypes := #[.long, .int]
  staticTypes := #[(.object "com/example/nodes_in_quorum/nodesinquorum/quorum/Promise"), (.object "java/lang/String")]
  resolved := Array.replicate 227 none
  statics := none }

def pool4 : Array CpInfo := pool [(1, u "java/lang/Cloneable"), (0, .class_ 1), (0, u "java/lang/Object"), (0, .class_ 3)] 3

/-- java/lang/Cloneable -/
def k4 : Class := { plain "java/lang/Cloneable" (some 0) with
  accessFlags := 1537
  interfaces := #[]
  cf := some (fileOf pool4 2 #[] #[] 1537 4 #[] #[])
  fields := #[]
  methods := #[]
  instanceTypes := #[]
  staticTypes := #[]
  resolved := Array.replicate 8 none
  statics := none }

def pool5 : Array CpInfo := pool [(1, u "java/io/Serializable"), (0, .class_ 1), (0, u "java/lang/Object"), (0, .class_ 3)] 3

/-- java/io/Serializable -/
def k5 : Class := { plain "java/io/Serializable" (some 0) with
  accessFlags := 1537
  interfaces := #[]
  cf := some (fileOf pool5 2 #[] #[] 1537 4 #[] #[])
  fields := #[]
  methods := #[]
  instanceTypes := #[]
  staticTypes := #[]
  resolved := Array.replicate 8 none
  statics := none }

/-- the primitive byte -/
def k6 : Class := { plain "byte" none with kind := .primitive 'B', accessFlags := 0x411 }
/-- [B -/
def k7 : Class := { plain "[B" (some 0) with kind := .array 6 .byte, interfaces := #[4, 5], accessFlags := 1041 }

/-- the primitive int -/
def k8 : Class := { plain "int" none with kind := .primitive 'I', accessFlags := 0x411 }
/-- [I -/
def k9 : Class := { plain "[I" (some 0) with kind := .array 8 .int, interfaces := #[4, 5], accessFlags := 1041 }

def heap : Heap := #[]
def classes : Array Class := #[k0, k1, k2, k3, k4, k5, k6, k7, k8, k9]
def interned : List (Array UInt16 × Addr) := []
def slotsUsed : Nat := 0
def theMethod : MethodId := ⟨1, 1⟩
def args0 : Array Value := #[.long 5, .int 7, .long 6, .int 8, .int 1]
def aboutOver (below : List Frame) : State where
  vm := { classes := classes, interned := interned.toArray }
  heap := heap
  slotsUsed := slotsUsed
  threads := #[{ frames := .invoking theMethod args0 :: below }]
def below0 : List Frame := [.native { method := ⟨0, 0⟩, args := #[] }]
def about1 : State := aboutOver below0
def p0 : Program := .bare "" "" ""
def e0 : Env := launch0.env 0 0 0
theorem w_frames : about1.frames = Frame.invoking theMethod args0 :: below0 := rfl
set_option maxRecDepth 65536 in
theorem w_args : argsFit about1.vm theMethod args0 = true := by decide +kernel
set_option maxRecDepth 65536 in
theorem w_heap : heapFits about1 = true := by decide +kernel
set_option maxRecDepth 65536 in
theorem w_runnable : about1.curStatus? = some .runnable := by decide +kernel
set_option maxRecDepth 65536 in
theorem w_alone : about1.alone = true := by decide +kernel
set_option maxRecDepth 65536 in
theorem w_named : about1.methodNamed? x = some theMethod := by decide +kernel
set_option maxRecDepth 65536 in
theorem w_hears : about1.hears theMethod below0 = true := by decide +kernel
set_option maxRecDepth 65536 in
theorem w_ripe : about1.ripe theMethod args0 below0 = true := by decide +kernel
theorem w_running : about1.status = .running := rfl
set_option maxRecDepth 65536 in
theorem w_room : about1.hasRoom e0.platform room_1 = true :=
  launch0.hasRoom_least _ room_1 (by decide +kernel) (by decide +kernel) (by decide +kernel) (by decide +kernel) (by decide +kernel) (by decide +kernel)
theorem allAtoms_all (ts : List Jvm.Cond) (a : Array Jvm.Value) (st : Jvm.State) : (allAtoms ts).before a st = ts.all (fun c => c.before a st) := by
  induction ts with
  | nil => rfl
  | cons c t ih =>
    show (Jvm.Cond.and c (allAtoms t)).before a st = _
    rw [Jvm.Cond.before_and, ih, List.all_cons]
def words1 : List Jvm.Cond := Jvm.Cond.code x code maxLocals ret :: tables_1
/-- a 'code' word, met by the world's own term for the bytes: nothing is compared byte by byte -/
theorem code_word {y : MethodName} {bytes : ByteArray} {mx : Nat} {rt : Option FieldType} {a : Array Value} {s : State} {m : MethodId} {meth : Method} {c : Code} (h1 : s.methodNamed? y = some m) (h2 : s.vm.method? m = some meth) (h3 : meth.code = some c) (h4 : c.code = bytes)
    (h5 : (c.maxLocals == mx && c.exceptionTable.isEmpty && decide (c.maxStack ≤ mostOperands) && decide (meth.sig.returnType = rt) && !meth.locks && decide (parseMethodDescriptor y.desc = some meth.sig)) = true) : (Jvm.Cond.code y bytes mx rt).before a s = true := by
  simp only [Bool.and_eq_true, beq_iff_eq, Bool.not_eq_true', decide_eq_true_eq] at h5
  obtain ⟨⟨⟨⟨⟨g1, g2⟩, g3⟩, g4⟩, g5⟩, g6⟩ := h5
  simp [Cond.before, Cond.holds, Cond.value, h1, h2, h3, h4, g1, g2, g3, g4, g5, g6]
def isCode : Jvm.Cond → Bool
  | .code _ _ _ _ => true
  | _ => false
theorem all_split {L : List Jvm.Cond} {P : Jvm.Cond → Bool} (h1 : L.all (fun c => isCode c || P c) = true) (h2 : ∀ c ∈ L.filter isCode, P c = true) : L.all P = true := by
  refine List.all_eq_true.mpr fun c hc => ?_
  have h := List.all_eq_true.mp h1 c hc
  rcases Bool.eq_false_or_eq_true (isCode c) with hi | hi
  · exact h2 c (List.mem_filter.mpr ⟨hc, hi⟩)
  · simpa [hi] using h
set_option maxRecDepth 65536 in
theorem w_c0 : (Jvm.Cond.code x code maxLocals ret).before args0 about1 = true := code_word (m := ⟨1, 1⟩) (meth := k1m1) (c := k1c1) (by decide +kernel) rfl rfl rfl (by decide +kernel)
set_option maxRecDepth 65536 in
theorem w_c1 : (Jvm.Cond.code ({ cls := "com/example/nodes_in_quorum/nodesinquorum/quorum/Promise", name := "<init>", desc := "(JI)V" } : Jvm.MethodName) prog_88_method_1_code (4 : Nat) (Option.none : Option Jvm.ClassFile.FieldType)).before args0 about1 = true := code_word (m := ⟨3, 0⟩) (meth := k3m0) (c := k3c0) (by decide +kernel) rfl rfl rfl (by decide +kernel)
set_option maxRecDepth 65536 in
theorem w_c2 : (Jvm.Cond.code ({ cls := "java/lang/Record", name := "<init>", desc := "()V" } : Jvm.MethodName) jdk_30_method_1_code (1 : Nat) (Option.none : Option Jvm.ClassFile.FieldType)).before args0 about1 = true := code_word (m := ⟨2, 0⟩) (meth := k2m0) (c := k2c0) (by decide +kernel) rfl rfl rfl (by decide +kernel)
set_option maxRecDepth 65536 in
theorem w_c3 : (Jvm.Cond.code ({ cls := "java/lang/Object", name := "<init>", desc := "()V" } : Jvm.MethodName) object_method_1_code (1 : Nat) (Option.none : Option Jvm.ClassFile.FieldType)).before args0 about1 = true := code_word (m := ⟨0, 0⟩) (meth := k0m0) (c := k0c0) (by decide +kernel) rfl rfl rfl (by decide +kernel)
set_option maxRecDepth 65536 in
theorem w_c4 : (Jvm.Cond.code ({ cls := "com/example/nodes_in_quorum/nodesinquorum/quorum/Promise", name := "allows", desc := "(JI)Z" } : Jvm.MethodName) prog_88_method_4_code (4 : Nat) (Option.some Jvm.ClassFile.FieldType.boolean)).before args0 about1 = true := code_word (m := ⟨3, 1⟩) (meth := k3m1) (c := k3c1) (by decide +kernel) rfl rfl rfl (by decide +kernel)
def codes1 : List Jvm.Cond := [Jvm.Cond.code x code maxLocals ret, Jvm.Cond.code ({ cls := "com/example/nodes_in_quorum/nodesinquorum/quorum/Promise", name := "<init>", desc := "(JI)V" } : Jvm.MethodName) prog_88_method_1_code (4 : Nat) (Option.none : Option Jvm.ClassFile.FieldType), Jvm.Cond.code ({ cls := "java/lang/Record", name := "<init>", desc := "()V" } : Jvm.MethodName) jdk_30_method_1_code (1 : Nat) (Option.none : Option Jvm.ClassFile.FieldType), Jvm.Cond.code ({ cls := "java/lang/Object", name := "<init>", desc := "()V" } : Jvm.MethodName) object_method_1_code (1 : Nat) (Option.none : Option Jvm.ClassFile.FieldType), Jvm.Cond.code ({ cls := "com/example/nodes_in_quorum/nodesinquorum/quorum/Promise", name := "allows", desc := "(JI)Z" } : Jvm.MethodName) prog_88_method_4_code (4 : Nat) (Option.some Jvm.ClassFile.FieldType.boolean)]
set_option maxRecDepth 65536 in
theorem codes_eq : words1.filter isCode = codes1 := rfl
theorem w_codes : ∀ c ∈ words1.filter isCode, c.before args0 about1 = true := by
  rw [codes_eq]
  intro c hc
  simp only [codes1, List.mem_cons, List.not_mem_nil, or_false] at hc
  rcases hc with rfl | rfl | rfl | rfl | rfl
  · exact w_c0
  · exact w_c1
  · exact w_c2
  · exact w_c3
  · exact w_c4
set_option maxRecDepth 65536 in
theorem w_t1 : words1.all (fun c => isCode c || c.before args0 about1) = true := by decide +kernel
theorem w_tables : (allAtoms (Jvm.Cond.code x code maxLocals ret :: tables_1)).before args0 about1 = true := by
  rw [allAtoms_all]
  show words1.all (fun c => c.before args0 about1) = true
  refine all_split ?_ w_codes
  rw [w_t1]
set_option maxRecDepth 65536 in
theorem w_case : (Jvm.Cond.and given_1 narrow_1).before args0 about1 = true := by decide +kernel
theorem w_applies : (headSpec (Jvm.Cond.code x code maxLocals ret :: tables_1) room_1).applies x e0.platform about1 = true :=
  (Spec.applies_iff w_frames).mpr ⟨w_running, w_runnable, w_alone, w_named, w_hears, w_ripe, w_room, w_tables⟩
theorem atStart : AtStart classFile x code maxLocals ret World_1 tables_1 room_1 Calls_1 rest_1 Pre_1 launch0 p0 e0 about1 theMethod args0 below0 :=
  ⟨lists_1, trivial, launch0.admits_env _ _ _, launch0.least_env, fairChoices_fair.cas, fairChoices_fair.clock, w_frames, w_args, w_heap, w_applies, trivial, trivial, w_case⟩
end start1
theorem witness_1 : WitnessClaimed_1 := ⟨start1.p0, start1.e0, start1.about1, start1.theMethod, start1.args0, start1.below0, start1.atStart⟩
end Jvm.Pilot.@@N@@
